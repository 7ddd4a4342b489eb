import JvmDerived
import JvmDerived.Pilot.@@N@@Statement
import JvmDerived.Pilot.@@N@@Code
set_option linter.unusedVariables false
set_option linter.unusedSimpArgs false
namespace Jvm.RoadKit
open Sem ClassFile Op Lib Jvm.Stand Jvm.Free Jvm.LawKit
section New
variable {p : Program} {l : Launch} {e : Env} {R : Room} {s : State} {m : MethodId} {args : Array Value} {below : List Frame} {meth : Method} {c : Code} {T : State} {locs : List Loc} {cells slots : Nat}
theorem retI (X : Stand p l e R s m args below meth c T locs cells slots) (hx : p.tables.exec = Jvm.exec) {pc : Nat} {Ls : Array Slot} {z : Int32} {rest : List Value} (hret : meth.sig.returnType = some .int) (hd : decode c.code pc = .ok (.ireturn, 1)) {fs : List Frame}
    (hl : ∀ (f : JFrame) (acts : List Action), f.method = m → f.locked = none → f.entered = [] → (doReturn e (T.setTop f) acts (some (.int z))).1 = T.setFrames fs) : Steps p.tables e below (T.setTop (mkF m pc Ls (.int z :: rest))) (T.setFrames fs) := by
  have hm' : T.vm.method? m = some meth := X.method'
  have hn : narrow .int (.int z) = .int z := rfl
  show Steps p.tables e below (T.setTop { method := m, pc := pc, locals := Ls, stack := _ :: rest, locked := none }) _
  jvm_step X.here [X.here.top, hx, hd, hm', hret, hn]
  first | (intro acts; rw [hl _ acts rfl rfl rfl]) | rw [hl _ _ rfl rfl rfl]
  exact Steps.refl _
end New
end Jvm.RoadKit
namespace Jvm.Pilot.@@N@@
open Jvm Jvm.ClassFile Sem Op Lib Jvm.Free Jvm.Stand Jvm.LawKit Jvm.RoadKit Bundle Jvm.Pilot.@@N@@.Jvm.D
/-- from the state T the run comes to a state of which K holds -/
def own_Go (p : Program) (e : Env) (below : List Frame) (K : State → Prop) (T : State) : Prop := ∃ t, Steps p.tables e below T t ∧ K t
theorem own_st {p : Program} {e : Env} {below : List Frame} {K : State → Prop} {T T' : State} (h : ∀ t, Steps p.tables e below T' t → Steps p.tables e below T t) (g : own_Go p e below K T') : own_Go p e below K T := by
  obtain ⟨t, a, b⟩ := g; exact ⟨t, h t a, b⟩
theorem own_tr {p : Program} {e : Env} {below : List Frame} {K : State → Prop} {T T' : State} (h : Steps p.tables e below T T') (g : own_Go p e below K T') : own_Go p e below K T := by
  obtain ⟨t, a, b⟩ := g; exact ⟨t, h.trans a, b⟩
theorem own_lrem {tb : Tables} [Ours tb] {e : Env} {below : List Frame} {T target : State} {m : MethodId} {c : Code} {g : JFrame} (h : At T m c below) (hx : tb.exec = Jvm.exec) (hg : g.method = m) {x y : Int64} {rest : List Value} (hd : decode c.code g.pc = .ok (.lrem, 1)) (hs : g.stack = .long y :: .long x :: rest) (hy : y ≠ 0)
    (hr : Steps tb e below (T.setTop { g with pc := g.pc + 1, stack := .long (x % y) :: rest }) target) : Steps tb e below (T.setTop g) target := by
  have q : x - x / y * y = x % y := lrem_mod x y
  exact XS.lrem h hx hg hd hs hy (by rw [q]; exact hr)
/-- a boolean's worth: 1 where P holds, 0 where it doesn't -/
def own_B (P : Prop) (r : Int32) : Prop := (r = 1 ∧ P) ∨ (r = 0 ∧ ¬ P)
theorem own_B.yes {P : Prop} {r : Int32} (e : r = 1) (h : P) : own_B P r := Or.inl ⟨e, h⟩
theorem own_B.no {P : Prop} {r : Int32} (e : r = 0) (h : ¬ P) : own_B P r := Or.inr ⟨e, h⟩
theorem own_B.same {P Q : Prop} {r v : Int32} (a : own_B P r) (b : own_B Q v) (h : P ↔ Q) : r = v := by
  rcases a with ⟨rfl, p⟩ | ⟨rfl, p⟩ <;> rcases b with ⟨rfl, q⟩ | ⟨rfl, q⟩
  · rfl
  · exact absurd (h.mp p) q
  · exact absurd (h.mpr q) p
  · rfl
theorem own_B.one {P : Prop} {r : Int32} (a : own_B P r) (h : P) : r = 1 := by
  rcases a with ⟨rfl, p⟩ | ⟨rfl, p⟩
  · rfl
  · exact absurd h p
theorem own_B.zero {P : Prop} {r : Int32} (a : own_B P r) (h : ¬ P) : r = 0 := by
  rcases a with ⟨rfl, p⟩ | ⟨rfl, p⟩
  · exact absurd p h
  · rfl
theorem own_B.ne0 {P : Prop} {r : Int32} (a : own_B P r) (h : P) : ¬ r = 0 := by rw [a.one h]; decide
theorem own_B.holds {P : Prop} {r : Int32} (a : own_B P r) (h : ¬ r = 0) : P := by
  rcases a with ⟨rfl, p⟩ | ⟨rfl, p⟩
  · exact p
  · exact absurd rfl h
theorem own_B.fails {P : Prop} {r : Int32} (a : own_B P r) (h : r = 0) : ¬ P := by
  rcases a with ⟨rfl, p⟩ | ⟨rfl, p⟩
  · exact absurd h (by decide)
  · exact p
theorem own_atJ (ws : List Int64) (i : Nat) : (ws.map Value.long).getD i (.long (0 : Int64)) = .long (ws.getD i 0) := by
  simp only [List.getD, List.getElem?_map]; cases ws[i]? <;> rfl
theorem own_atI (ws : List Int32) (i : Nat) : (ws.map Value.int).getD i (.int (0 : Int32)) = .int (ws.getD i 0) := by
  simp only [List.getD, List.getElem?_map]; cases ws[i]? <;> rfl
theorem own_selp {Z s : State} {a0 args : Array Value} {y : MethodName} {n : Nat} (hZ : Z.Warmed39 s.vm) (wi : (Jvm.Cond.instantiable y.cls n).before a0 Z = true) (wm : (Jvm.Cond.instanceMethod y).before a0 Z = true) (wp : (Jvm.Cond.privateMethod y).before a0 Z = true) (hy : y.cls ≠ "java/lang/invoke/MethodHandle" ∧ y.cls ≠ "java/lang/invoke/VarHandle") : (Jvm.Cond.selects y.cls y y).before args s = true := by
  have w1 : (Jvm.Cond.instantiable y.cls n).before args s = true := mvT hZ wi
  obtain ⟨c, k, h1, h2, h3, h4, -⟩ := Cond.instantiable_spec w1
  have h5 : k.isInterface = false := by cases hq : k.isInterface <;> simp [hq] at h4 ⊢
  exact selects_self_of_private h1 h2 h5 (Cond.privateMethod_at (mvP hZ wp (args := args))) (mvT hZ wm) hy
theorem own_hat {T : State} {h : Heap} {a : Addr} {c : Cell} (e : T.heap = h) (q : h[a]? = some c) : T.heap[a]? = some c := by rw [e]; exact q
theorem own_nn (x : Int32) : nar .byte (nar .byte x) = nar .byte x := by
  refine Int32.toInt_inj.mp ?_
  have a := c_i2b x
  have b := c_i2b x.toInt8.toInt32
  show x.toInt8.toInt32.toInt8.toInt32.toInt = x.toInt8.toInt32.toInt
  omega
theorem own_nb (x : Int32) : nar .byte x.toInt8.toInt32 = x.toInt8.toInt32 := own_nn x
theorem own_fit {x : Int32} (h : nar .byte x = x) : fits .byte (.int x) = true := by rw [← h]; exact fits_nar_byte x
theorem own_cl {j : Int32} {i : Nat} (h : j.toInt = (i : Int)) : j.toNatClampNeg = i := by rw [Int32.toNatClampNeg, h]; rfl
theorem own_lt {a b : Int32} (h : a.toInt < b.toInt) : a < b := Int32.lt_iff_toInt_lt.mpr h
theorem own_nlt {a b : Int32} (h : b.toInt ≤ a.toInt) : ¬ a < b := fun q => absurd (Int32.lt_iff_toInt_lt.mp q) (by omega)
theorem own_ltI {a b : Int32} (h : a < b) : a.toInt < b.toInt := Int32.lt_iff_toInt_lt.mp h
theorem own_nltI {a b : Int32} (h : ¬ a < b) : b.toInt ≤ a.toInt := by have := mt Int32.lt_iff_toInt_lt.mpr h; omega
theorem own_neI {a b : Int32} (h : ¬ a = b) : ¬ a.toInt = b.toInt := fun q => h (Int32.toInt_inj.mp q)
theorem own_ltL {a b : Int64} (h : a < b) : a.toInt < b.toInt := Int64.lt_iff_toInt_lt.mp h
theorem own_nltL {a b : Int64} (h : ¬ a < b) : b.toInt ≤ a.toInt := by have := mt Int64.lt_iff_toInt_lt.mpr h; omega
theorem own_neL {a b : Int64} (h : ¬ a = b) : ¬ a.toInt = b.toInt := fun q => h (Int64.toInt_inj.mp q)
def own_L (Z : State) (h : Heap) (a : Addr) (n : Int32) (b xd : Addr) : Prop :=
  Exa Z h a "java/util/ArrayList" ∧ Fld Z h a "java/util/ArrayList" "size" "I" (.int n) ∧ (∃ mc : Int32, Fld Z h a "java/util/AbstractList" "modCount" "I" (.int mc)) ∧
  ((n = 0 ∧ b = a ∧ Fld Z h a "java/util/ArrayList" "elementData" "[Ljava/lang/Object;" (.ref xd)) ∨ (a ≠ b ∧ Fld Z h a "java/util/ArrayList" "elementData" "[Ljava/lang/Object;" (.ref b) ∧ ∃ k vs, Arv Z h b k (.object "java/lang/Object") (10 : Int32) vs .null ∧ vs.length = 10))
theorem own_L.ext {Z : State} {h h' : Heap} {a b xd : Addr} {n : Int32} (F : own_L Z h a n b xd) (E : Ext h h') : own_L Z h' a n b xd := by
  obtain ⟨e, s, ⟨mc, m⟩, r⟩ := F
  refine ⟨e.ext E, s.ext E, ⟨mc, m.ext E⟩, ?_⟩
  rcases r with ⟨x, y, z⟩ | ⟨x, y, k, vs, z, w⟩
  · exact Or.inl ⟨x, y, z.ext E⟩
  · exact Or.inr ⟨x, y.ext E, k, vs, z.ext E, w⟩
theorem own_L.other {Z : State} {h h' : Heap} {a b xd o : Addr} {n : Int32} {sl : Nat} {v : Value} (F : own_L Z h a n b xd) (W : Wr h h' o sl v) (na : a ≠ o) (nb : b ≠ o) : own_L Z h' a n b xd := by
  obtain ⟨e, s, ⟨mc, m⟩, r⟩ := F
  refine ⟨e.wr W, s.other W (Or.inl na), ⟨mc, m.other W (Or.inl na)⟩, ?_⟩
  rcases r with ⟨x, y, z⟩ | ⟨x, y, k, vs, z, w⟩
  · exact Or.inl ⟨x, y, z.other W (Or.inl na)⟩
  · exact Or.inr ⟨x, y.other W (Or.inl na), k, vs, z.other W nb, w⟩
theorem own_L.keep {Z : State} {h h' : Heap} {a b xd : Addr} {n : Int32} {ws : List Addr} (F : own_L Z h a n b xd) (K : Keep h h' ws) (na : a ∉ ws) (nb : b ∉ ws) : own_L Z h' a n b xd := by
  obtain ⟨e, s, ⟨mc, m⟩, r⟩ := F
  refine ⟨e.keep K, s.keep K na, ⟨mc, m.keep K na⟩, ?_⟩
  rcases r with ⟨x, y, z⟩ | ⟨x, y, k, vs, z, w⟩
  · exact Or.inl ⟨x, y, z.keep K na⟩
  · exact Or.inr ⟨x, y.keep K na, k, vs, z.keep K nb, w⟩
theorem own_L.lta {Z : State} {h : Heap} {a b xd : Addr} {n : Int32} (F : own_L Z h a n b xd) : a < h.size := F.1.lt
theorem own_L.ltb {Z : State} {h : Heap} {a b xd : Addr} {n : Int32} (F : own_L Z h a n b xd) : b < h.size := by
  obtain ⟨e, s, m, r⟩ := F
  rcases r with ⟨x, y, z⟩ | ⟨x, y, k, vs, z, w⟩
  · rw [y]; exact e.lt
  · exact z.lt
theorem own_L.cast {Z : State} {h : Heap} {a b xd : Addr} {n n' : Int32} (F : own_L Z h a n b xd) (e : n = n') : own_L Z h a n' b xd := e ▸ F
theorem own_ney {o y b : Addr} {h : Heap} (p : y = b ∨ h.size ≤ y) (ne : o ≠ b) (lt : o < h.size) : o ≠ y := by
  rcases p with p | p
  · rw [p]; exact ne
  · exact Nat.ne_of_lt (Nat.lt_of_lt_of_le lt p)
theorem own_gy {y b n0 : Nat} {h : Heap} (p : y = b ∨ h.size ≤ y) (g : n0 ≤ b) (z : n0 ≤ h.size) : n0 ≤ y := by
  rcases p with p | p
  · rw [p]; exact g
  · exact Nat.le_trans z p
theorem own_weak {l : Launch} {x : MethodName} {S : Spec} {P : Array Value → State → Prop} {K : Program → Env → List Frame → State → Array Value → Prop} {Q Q' : Array Value → State → Outcome → State → Prop} (h : MetFree l x S P K Q) (w : ∀ a U o U', Q a U o U' → Q' a U o U') : MetFree l x S P K Q' := by
  intro p e ha hc hk s m args below hf happ hP hK
  obtain ⟨n, o, h1, h2, h3, h4⟩ := h p e ha hc hk s m args below hf happ hP hK
  exact ⟨n, o, h1, h2, h3, w _ _ _ _ h4⟩
theorem own_n3 {a i : Int32} (h : a &&& (3 : Int32) = i) : 0 ≤ i.toInt ∧ i.toInt ≤ 3 := by
  have e := c_mask a 3 2 (by decide) (by decide)
  rw [h] at e
  have e' : i.toInt = a.toInt % 4 := e
  omega
theorem own_e10 {p : Int32} (h : p < 10) : ¬ p = 10 := fun q => by rw [q] at h; exact absurd h (by decide)
theorem own_in10 {p : Int32} (h0 : ¬ p < 0) (h1 : p < 10) : p.toNatClampNeg < 10 := by
  have a := nat_of h0
  have b : p.toInt < 10 := own_ltI h1
  omega
theorem own_up {p : Int32} (h : 0 ≤ p.toInt ∧ p.toInt < 9) : (p + (1 : Int32)).toInt = p.toInt + 1 := by
  have a := c_iadd p 1
  have t1 : (1 : Int32).toInt = 1 := by decide
  have r := rng32 (p + 1)
  rw [t1] at a
  omega
theorem own_z0 {n : Int32} (B : 0 ≤ n.toInt ∧ n.toInt ≤ 3) (h : ¬ (0 : Int32) < n) : (0 : Int32) = n := by
  have a : n.toInt ≤ (0 : Int) := own_nltI h
  exact Int32.toInt_inj.mp (by show (0 : Int) = n.toInt; omega)
theorem own_z1 {n : Int32} (B : 0 ≤ n.toInt ∧ n.toInt ≤ 3) (h : (0 : Int32) < n) (h' : ¬ (1 : Int32) < n) : ((0 : Int32) + (1 : Int32)) = n := by
  have a : (0 : Int) < n.toInt := own_ltI h
  have b : n.toInt ≤ (1 : Int) := own_nltI h'
  exact Int32.toInt_inj.mp (by show (1 : Int) = n.toInt; omega)
theorem own_z2 {n : Int32} (B : 0 ≤ n.toInt ∧ n.toInt ≤ 3) (h : (1 : Int32) < n) (h' : ¬ (2 : Int32) < n) : (((0 : Int32) + (1 : Int32)) + (1 : Int32)) = n := by
  have a : (1 : Int) < n.toInt := own_ltI h
  have b : n.toInt ≤ (2 : Int) := own_nltI h'
  exact Int32.toInt_inj.mp (by show (2 : Int) = n.toInt; omega)
theorem own_z3 {n : Int32} (B : 0 ≤ n.toInt ∧ n.toInt ≤ 3) (h : (2 : Int32) < n) : ((((0 : Int32) + (1 : Int32)) + (1 : Int32)) + (1 : Int32)) = n := by
  have a : (2 : Int) < n.toInt := own_ltI h
  exact Int32.toInt_inj.mp (by show (3 : Int) = n.toInt; omega)
theorem own_lt1 {n : Int32} (h : ¬ (0 : Int32) < n) : ¬ (1 : Int32) < n := by
  have a : n.toInt ≤ (0 : Int) := own_nltI h
  exact own_nlt (by show n.toInt ≤ (1 : Int); omega)
theorem own_lt2 {n : Int32} (h : ¬ (1 : Int32) < n) : ¬ (2 : Int32) < n := by
  have a : n.toInt ≤ (1 : Int) := own_nltI h
  exact own_nlt (by show n.toInt ≤ (2 : Int); omega)
theorem own_empty {args : Array Value} {s : State} {t : Term} {a : Addr} {cl : Cell} (hfit : Fit s) (ev : t.eval args s none [] s = some (.ref a)) (A : Arr s s.heap a cl (.object "java/lang/Object")) (hl : (Jvm.Cond.eq (Term.length t) (Term.int (0 : Int32))).value args s none s [] = some true) : Arv s s.heap a cl.cls (.object "java/lang/Object") (0 : Int32) [] .null := by
  have hat : s.arrayAt? a = some cl := Arr.fin (State.Warmed39.refl s).alike A
  obtain ⟨x, y, e1, e2, -, -⟩ := cmp_v (Or.inl hl)
  obtain ⟨a', cl', l1, l2, rfl⟩ := Term.length_spec e1
  cases ev.symm.trans l1
  cases hat.symm.trans l2
  have hs : cl.slots.size < 2 ^ 31 := by
    rcases Nat.lt_or_ge cl.slots.size (2 ^ 31) with q | q
    · exact q
    · simp [Term.eval, ev, hat, Nat.not_lt.mpr q] at e1
  have hz : cl.slots.size.toInt32 = (0 : Int32) := by simpa [Cond.value, Term.eval, ev, hat, hs] using hl
  exact Arv.start hfit A hs hz (by decide) rfl trivial
theorem d5_0 : decode jdk_22_method_1_code 0 = .ok (.aload_n 0, 1) := by decide +kernel
theorem d5_1 : decode jdk_22_method_1_code 1 = .ok (.invokespecial 1, 3) := by decide +kernel
theorem d5_4 : decode jdk_22_method_1_code 4 = .ok (.return_, 1) := by decide +kernel
theorem pn_5 : plainName "java/util/AbstractCollection" = true := by first | (simp [plainName, overriddenIn]; done) | decide +kernel
theorem ef_5 (m : MethodId) (x0 : Addr) : entryFrame m #[(.ref x0)] 1 = mkF m 0 #[.val (.ref x0)] [] := by first | (simp [entryFrame, mkF, argsToLocals, Value.category]; done) | rfl
def Q5 (Z : State) (a1 : Addr) (h0 : Heap) (n0 : Nat) (v : Option Value) (h : Heap) (L : List Loc) : Prop := v = none ∧ Fr n0 L ∧ h = h0
set_option maxRecDepth 65536 in
set_option maxHeartbeats 40000000 in
theorem rm5 (l : Launch) (Z : State) (a0 : Array Value) (hw : ∀ d ∈ tables_1, d.before a0 Z = true) (ws : List Jvm.Cond) (a1 : Addr) (h0 : Heap) (n0 : Nat) (Z0 : n0 ≤ h0.size)  :
    MetFree l (⟨"java/util/AbstractCollection", "<init>", "()V"⟩ : MethodName) (head1 (Jvm.Cond.code (⟨"java/util/AbstractCollection", "<init>", "()V"⟩ : MethodName) jdk_22_method_1_code 1 none :: ws) ({ frames := 1, cells := 0, slots := 0, locals := 12 } : Room)) (fun a U => a = #[(.ref a1)] ∧ Z.Warmed39 U.vm ∧ U.heap = h0) (fun _ _ _ _ _ => True) (fun _ U o U' => ∃ v L, o = .returned v ∧ Q5 Z a1 h0 n0 v U'.heap L ∧ FrameEnd U o U' L ({ frames := 1, cells := 0, slots := 0, locals := 12 } : Room).cells ({ frames := 1, cells := 0, slots := 0, locals := 12 } : Room).slots) := by
  refine MetFree.of_bodySF (plainFor_of_name pn_5) hisR ?_
  intro p e s m args below meth c s₁ Bd hml0 hP hK
  obtain ⟨rfl, hZ, hh⟩ := hP
  have hx := Bd.exec
  have hby := Bd.bytes
  have hml : c.maxLocals = 1 := hml0
  have hown : s.vm.findClass "java/util/AbstractCollection" = some m.cls := findClass_of_methodNamed Bd.named
  have hnm := (name_of_methodNamed Bd.named Bd.method).1
  have X0 : Stand p l e ({ frames := 1, cells := 0, slots := 0, locals := 12 } : Room) s m #[(.ref a1)] below meth c s₁ [] 0 0 := Stand.of_body Bd
  have e0 : s₁.heap = h0 := by rw [← hh, Bd.state]; rfl
  have N0 := Fr.nil n0
  suffices G0 : ∀ K : State → Prop, (∀ (n : State) (v : Option Value) (L : List Loc), n.status = .running → Ended n below (.returned v) → Q5 Z a1 h0 n0 v n.heap L → FrameEnd s (.returned v) n L ({ frames := 1, cells := 0, slots := 0, locals := 12 } : Room).cells ({ frames := 1, cells := 0, slots := 0, locals := 12 } : Room).slots → K n) → own_Go p e below K (s₁.setTop (mkF m 0 #[.val (.ref a1)] [])) by
    obtain ⟨t, st, o, a, b, v, L, e1, q, fe⟩ := G0 (fun n => ∃ o, n.status = .running ∧ Ended n below o ∧ ∃ v L, o = .returned v ∧ Q5 Z a1 h0 n0 v n.heap L ∧ FrameEnd s o n L ({ frames := 1, cells := 0, slots := 0, locals := 12 } : Room).cells ({ frames := 1, cells := 0, slots := 0, locals := 12 } : Room).slots) (fun n v L a b q f => ⟨_, a, b, v, L, rfl, q, f⟩)
    exact ⟨t, o, castTop (ef_5 m a1) st, a, b, v, L, e1, q, fe⟩
  intro K fin
  show own_Go p e below K (s₁.setTop (mkF m 0 #[.val (.ref a1)] []))
  refine own_st (fun t k => XS.aloadN X0.here hx rfl (hb hby d5_0) rfl rfl k) ?_
  show own_Go p e below K (s₁.setTop (mkF m 1 #[.val (.ref a1)] [(.ref a1)]))
  obtain ⟨T1, X1, e1, st1⟩ := initO X0 hx hZ hown (hw _ (List.mem_of_getElem? (i := 27) rfl)) (hw _ (List.mem_of_getElem? (i := 7) rfl)) (hw _ (List.mem_of_getElem? (i := 8) rfl)) e0 (g := (mkF m 1 #[.val (.ref a1)] [(.ref a1)])) rfl (by rw [hml]; rfl) rfl (hb hby d5_1) (by decide) (W := 0) (by show 2 * 0 + _ ≤ _; exact Nat.le_of_eq rfl) (by decide)
  refine own_st st1 ?_
  show own_Go p e below K (T1.setTop (mkF m 4 #[.val (.ref a1)] []))
  obtain ⟨fs, hr, hrun, hended, hW, hsame⟩ := X1.leave (v := none) (fun _ => rfl)
  refine ⟨_, X1.returnOut hx Bd.returns (hb hby d5_4) hr, fin _ _ _ hrun hended ?_ ⟨⟨_, rfl⟩, hW, hsame.mono (by decide) (by decide)⟩⟩
  show Q5 Z a1 h0 n0 _ T1.heap _
  rw [e1]
  exact ⟨rfl, N0, rfl⟩
theorem d4_0 : decode jdk_39_method_1_code 0 = .ok (.aload_n 0, 1) := by decide +kernel
theorem d4_1 : decode jdk_39_method_1_code 1 = .ok (.invokespecial 1, 3) := by decide +kernel
theorem d4_4 : decode jdk_39_method_1_code 4 = .ok (.aload_n 0, 1) := by decide +kernel
theorem d4_5 : decode jdk_39_method_1_code 5 = .ok (.iconst 0, 1) := by decide +kernel
theorem d4_6 : decode jdk_39_method_1_code 6 = .ok (.putfield 7, 3) := by decide +kernel
theorem d4_9 : decode jdk_39_method_1_code 9 = .ok (.return_, 1) := by decide +kernel
theorem pn_4 : plainName "java/util/AbstractList" = true := by first | (simp [plainName, overriddenIn]; done) | decide +kernel
theorem pd_4_0 : parseMethodDescriptor "()V" = some ⟨[], none⟩ := by decide +kernel
theorem ef_4 (m : MethodId) (x0 : Addr) : entryFrame m #[(.ref x0)] 1 = mkF m 0 #[.val (.ref x0)] [] := by first | (simp [entryFrame, mkF, argsToLocals, Value.category]; done) | rfl
def Q4 (Z : State) (a1 : Addr) (h0 : Heap) (n0 : Nat) (v : Option Value) (h : Heap) (L : List Loc) : Prop := v = none ∧ Fr n0 L ∧ Keep h0 h [a1] ∧ (Exa Z h a1 "java/util/ArrayList") ∧ (Fld Z h a1 "java/util/ArrayList" "elementData" "[Ljava/lang/Object;" .null) ∧ (Fld Z h a1 "java/util/AbstractList" "modCount" "I" (.int (0 : Int32))) ∧ (Fld Z h a1 "java/util/ArrayList" "size" "I" (.int (0 : Int32)))
set_option maxRecDepth 65536 in
set_option maxHeartbeats 40000000 in
theorem rm4 (l : Launch) (Z : State) (a0 : Array Value) (hw : ∀ d ∈ tables_1, d.before a0 Z = true) (ws : List Jvm.Cond) (a1 : Addr) (h0 : Heap) (n0 : Nat) (Z0 : n0 ≤ h0.size) (g_a1 : n0 ≤ a1) (P0 : Exa Z h0 a1 "java/util/ArrayList") (P1 : Fld Z h0 a1 "java/util/ArrayList" "elementData" "[Ljava/lang/Object;" .null) (P2 : Fld Z h0 a1 "java/util/AbstractList" "modCount" "I" (.int (0 : Int32))) (P3 : Fld Z h0 a1 "java/util/ArrayList" "size" "I" (.int (0 : Int32))) :
    MetFree l (⟨"java/util/AbstractList", "<init>", "()V"⟩ : MethodName) (head1 (Jvm.Cond.code (⟨"java/util/AbstractList", "<init>", "()V"⟩ : MethodName) jdk_39_method_1_code 1 none :: ws) ({ frames := 2, cells := 0, slots := 0, locals := 24 } : Room)) (fun a U => a = #[(.ref a1)] ∧ Z.Warmed39 U.vm ∧ U.heap = h0) (fun _ _ _ _ _ => True) (fun _ U o U' => ∃ v L, o = .returned v ∧ Q4 Z a1 h0 n0 v U'.heap L ∧ FrameEnd U o U' L ({ frames := 2, cells := 0, slots := 0, locals := 24 } : Room).cells ({ frames := 2, cells := 0, slots := 0, locals := 24 } : Room).slots) := by
  refine MetFree.of_bodySF (plainFor_of_name pn_4) hisR ?_
  intro p e s m args below meth c s₁ Bd hml0 hP hK
  obtain ⟨rfl, hZ, hh⟩ := hP
  have hx := Bd.exec
  have hby := Bd.bytes
  have hml : c.maxLocals = 1 := hml0
  have hown : s.vm.findClass "java/util/AbstractList" = some m.cls := findClass_of_methodNamed Bd.named
  have hnm := (name_of_methodNamed Bd.named Bd.method).1
  have X0 : Stand p l e ({ frames := 2, cells := 0, slots := 0, locals := 24 } : Room) s m #[(.ref a1)] below meth c s₁ [] 0 0 := Stand.of_body Bd
  have e0 : s₁.heap = h0 := by rw [← hh, Bd.state]; rfl
  have N0 := Fr.nil n0
  suffices G0 : ∀ K : State → Prop, (∀ (n : State) (v : Option Value) (L : List Loc), n.status = .running → Ended n below (.returned v) → Q4 Z a1 h0 n0 v n.heap L → FrameEnd s (.returned v) n L ({ frames := 2, cells := 0, slots := 0, locals := 24 } : Room).cells ({ frames := 2, cells := 0, slots := 0, locals := 24 } : Room).slots → K n) → own_Go p e below K (s₁.setTop (mkF m 0 #[.val (.ref a1)] [])) by
    obtain ⟨t, st, o, a, b, v, L, e1, q, fe⟩ := G0 (fun n => ∃ o, n.status = .running ∧ Ended n below o ∧ ∃ v L, o = .returned v ∧ Q4 Z a1 h0 n0 v n.heap L ∧ FrameEnd s o n L ({ frames := 2, cells := 0, slots := 0, locals := 24 } : Room).cells ({ frames := 2, cells := 0, slots := 0, locals := 24 } : Room).slots) (fun n v L a b q f => ⟨_, a, b, v, L, rfl, q, f⟩)
    exact ⟨t, o, castTop (ef_4 m a1) st, a, b, v, L, e1, q, fe⟩
  intro K fin
  show own_Go p e below K (s₁.setTop (mkF m 0 #[.val (.ref a1)] []))
  refine own_st (fun t k => XS.aloadN X0.here hx rfl (hb hby d4_0) rfl rfl k) ?_
  show own_Go p e below K (s₁.setTop (mkF m 1 #[.val (.ref a1)] [(.ref a1)]))
  obtain ⟨_, _, ⟨T1, L1, k1, n1⟩, -, X1, ⟨Lc1, hQ1, l1, y1, z1⟩, st1⟩ := X0.specialBack hx (y := (⟨"java/util/AbstractCollection", "<init>", "()V"⟩ : MethodName)) rfl hown (mvT hZ (hw _ (List.mem_of_getElem? (i := 21) rfl))) (mvT hZ (hw _ (List.mem_of_getElem? (i := 22) rfl))) (mvT hZ (hw _ (List.mem_of_getElem? (i := 26) rfl))) (by decide) (backOf (W := 0) (rm5 l Z a0 hw [] a1 h0 n0 Z0) hZ (hw _ (List.mem_of_getElem? (i := 26) rfl)) (hw _ (List.mem_of_getElem? (i := 25) rfl)) (by decide) (by decide)) (g := (mkF m 1 #[.val (.ref a1)] [(.ref a1)])) rfl (by rw [hml]; rfl) (Steps.refl _) (a := a1) (argsL := []) (rest := []) (lenOf pd_4_0 rfl) rfl (by show 2 * 0 + _ ≤ _; exact Nat.le_of_eq rfl) (hb hby d4_1) (fun _ _ => ⟨rfl, e0, (by decide : 0 + 0 ≤ _), (by decide : 0 + 0 ≤ _)⟩)
  dsimp only [Pt.U, Pt.locs, Pt.cells, Pt.slots] at X1 l1 y1 z1 st1 hQ1
  subst l1 y1 z1
  obtain ⟨rfl, N1q, e1⟩ := hQ1
  have N1 := Fr.app N0 N1q
  refine own_tr st1 ?_
  show own_Go p e below K (T1.setTop (mkF m 4 #[.val (.ref a1)] []))
  refine own_st (fun t k => XS.aloadN X1.here hx rfl (hb hby d4_4) rfl rfl k) ?_
  show own_Go p e below K (T1.setTop (mkF m 5 #[.val (.ref a1)] [(.ref a1)]))
  refine own_st (fun t k => XS.iconst X1.here hx rfl (hb hby d4_5) k) ?_
  show own_Go p e below K (T1.setTop (mkF m 6 #[.val (.ref a1)] [(.int (0 : Int32)), (.ref a1)]))
  obtain ⟨T2, h2, X2, e2, W2, st2⟩ := putF X1 hx hZ hown (host := "") (Or.inl (hw _ (List.mem_of_getElem? (i := 28) rfl))) Via.refl e1 P2 P0 (Or.inl (hw _ (List.mem_of_getElem? (i := 29) rfl))) (hw _ (List.mem_of_getElem? (i := 10) rfl)) (ty := .int) (by decide) rfl rfl (g := (mkF m 6 #[.val (.ref a1)] [(.int (0 : Int32)), (.ref a1)])) rfl rfl (hb hby d4_6)
  have fw2 : Fld Z h2 a1 "java/util/AbstractList" "modCount" "I" (.int (0 : Int32)) := P2.same W2
  have f3 : Exa Z h2 a1 "java/util/ArrayList" := P0.wr W2
  have f4 : Fld Z h2 a1 "java/util/ArrayList" "elementData" "[Ljava/lang/Object;" .null := P1.other W2 (Or.inr (slot_ne (Or.inl (hw _ (List.mem_of_getElem? (i := 32) rfl))) (Or.inl (hw _ (List.mem_of_getElem? (i := 29) rfl))) (by decide) (t := (.array (.object "java/lang/Object"))) (t' := .int) (by decide) (by decide)))
  have f5 : Fld Z h2 a1 "java/util/ArrayList" "size" "I" (.int (0 : Int32)) := P3.other W2 (Or.inr (slot_ne (Or.inl (hw _ (List.mem_of_getElem? (i := 89) rfl))) (Or.inl (hw _ (List.mem_of_getElem? (i := 29) rfl))) (by decide) (t := .int) (t' := .int) (by decide) (by decide)))
  have N2 := Fr.snoc X2 N1 g_a1
  have Z2 : n0 ≤ h2.size := Nat.le_trans Z0 (Keep.of_wr W2).1
  have K2 : Keep h0 h2 [a1] := (Keep.refl h0 [a1]).wr W2 (Or.inl (List.mem_of_getElem? (i := 0) rfl))
  refine own_st st2 ?_
  show own_Go p e below K (T2.setTop (mkF m 9 #[.val (.ref a1)] []))
  obtain ⟨fs, hr, hrun, hended, hW, hsame⟩ := X2.leave (v := none) (fun _ => rfl)
  refine ⟨_, X2.returnOut hx Bd.returns (hb hby d4_9) hr, fin _ _ _ hrun hended ?_ ⟨⟨_, rfl⟩, hW, hsame.mono (by decide) (by decide)⟩⟩
  show Q4 Z a1 h0 n0 _ T2.heap _
  rw [e2]
  exact ⟨rfl, N2, K2, f3, f4, fw2, f5⟩
theorem d3_0 : decode jdk_38_method_2_code 0 = .ok (.aload_n 0, 1) := by decide +kernel
theorem d3_1 : decode jdk_38_method_2_code 1 = .ok (.invokespecial 1, 3) := by decide +kernel
theorem d3_4 : decode jdk_38_method_2_code 4 = .ok (.aload_n 0, 1) := by decide +kernel
theorem d3_5 : decode jdk_38_method_2_code 5 = .ok (.getstatic 39, 3) := by decide +kernel
theorem d3_8 : decode jdk_38_method_2_code 8 = .ok (.putfield 9, 3) := by decide +kernel
theorem d3_11 : decode jdk_38_method_2_code 11 = .ok (.return_, 1) := by decide +kernel
theorem pn_3 : plainName "java/util/ArrayList" = true := by first | (simp [plainName, overriddenIn]; done) | decide +kernel
theorem pd_3_0 : parseMethodDescriptor "()V" = some ⟨[], none⟩ := by decide +kernel
theorem ef_3 (m : MethodId) (x0 : Addr) : entryFrame m #[(.ref x0)] 1 = mkF m 0 #[.val (.ref x0)] [] := by first | (simp [entryFrame, mkF, argsToLocals, Value.category]; done) | rfl
def Q3 (Z : State) (a1 : Addr) (xd : Addr) (h0 : Heap) (n0 : Nat) (v : Option Value) (h : Heap) (L : List Loc) : Prop := v = none ∧ Fr n0 L ∧ Keep h0 h [a1] ∧ (Exa Z h a1 "java/util/ArrayList") ∧ (Fld Z h a1 "java/util/ArrayList" "elementData" "[Ljava/lang/Object;" (.ref xd)) ∧ (Fld Z h a1 "java/util/AbstractList" "modCount" "I" (.int (0 : Int32))) ∧ (Fld Z h a1 "java/util/ArrayList" "size" "I" (.int (0 : Int32)))
set_option maxRecDepth 65536 in
set_option maxHeartbeats 40000000 in
theorem rm3 (l : Launch) (Z : State) (a0 : Array Value) (hw : ∀ d ∈ tables_1, d.before a0 Z = true) (ws : List Jvm.Cond) (a1 : Addr) (xd : Addr) (h0 : Heap) (n0 : Nat) (Z0 : n0 ≤ h0.size) (g_a1 : n0 ≤ a1) (P0 : Exa Z h0 a1 "java/util/ArrayList") (P1 : Fld Z h0 a1 "java/util/ArrayList" "elementData" "[Ljava/lang/Object;" .null) (P2 : Fld Z h0 a1 "java/util/AbstractList" "modCount" "I" (.int (0 : Int32))) (P3 : Fld Z h0 a1 "java/util/ArrayList" "size" "I" (.int (0 : Int32))) (P4 : Old Z n0 h0) (SD : Sta Z Z.heap "java/util/ArrayList" "DEFAULTCAPACITY_EMPTY_ELEMENTDATA" "[Ljava/lang/Object;" (.ref xd)) :
    MetFree l (⟨"java/util/ArrayList", "<init>", "()V"⟩ : MethodName) (head1 (Jvm.Cond.code (⟨"java/util/ArrayList", "<init>", "()V"⟩ : MethodName) jdk_38_method_2_code 1 none :: ws) ({ frames := 3, cells := 0, slots := 0, locals := 36 } : Room)) (fun a U => a = #[(.ref a1)] ∧ Z.Warmed39 U.vm ∧ U.heap = h0) (fun _ _ _ _ _ => True) (fun _ U o U' => ∃ v L, o = .returned v ∧ Q3 Z a1 xd h0 n0 v U'.heap L ∧ FrameEnd U o U' L ({ frames := 3, cells := 0, slots := 0, locals := 36 } : Room).cells ({ frames := 3, cells := 0, slots := 0, locals := 36 } : Room).slots) := by
  refine MetFree.of_bodySF (plainFor_of_name pn_3) hisR ?_
  intro p e s m args below meth c s₁ Bd hml0 hP hK
  obtain ⟨rfl, hZ, hh⟩ := hP
  have hx := Bd.exec
  have hby := Bd.bytes
  have hml : c.maxLocals = 1 := hml0
  have hown : s.vm.findClass "java/util/ArrayList" = some m.cls := findClass_of_methodNamed Bd.named
  have hnm := (name_of_methodNamed Bd.named Bd.method).1
  have X0 : Stand p l e ({ frames := 3, cells := 0, slots := 0, locals := 36 } : Room) s m #[(.ref a1)] below meth c s₁ [] 0 0 := Stand.of_body Bd
  have e0 : s₁.heap = h0 := by rw [← hh, Bd.state]; rfl
  have N0 := Fr.nil n0
  suffices G0 : ∀ K : State → Prop, (∀ (n : State) (v : Option Value) (L : List Loc), n.status = .running → Ended n below (.returned v) → Q3 Z a1 xd h0 n0 v n.heap L → FrameEnd s (.returned v) n L ({ frames := 3, cells := 0, slots := 0, locals := 36 } : Room).cells ({ frames := 3, cells := 0, slots := 0, locals := 36 } : Room).slots → K n) → own_Go p e below K (s₁.setTop (mkF m 0 #[.val (.ref a1)] [])) by
    obtain ⟨t, st, o, a, b, v, L, e1, q, fe⟩ := G0 (fun n => ∃ o, n.status = .running ∧ Ended n below o ∧ ∃ v L, o = .returned v ∧ Q3 Z a1 xd h0 n0 v n.heap L ∧ FrameEnd s o n L ({ frames := 3, cells := 0, slots := 0, locals := 36 } : Room).cells ({ frames := 3, cells := 0, slots := 0, locals := 36 } : Room).slots) (fun n v L a b q f => ⟨_, a, b, v, L, rfl, q, f⟩)
    exact ⟨t, o, castTop (ef_3 m a1) st, a, b, v, L, e1, q, fe⟩
  intro K fin
  show own_Go p e below K (s₁.setTop (mkF m 0 #[.val (.ref a1)] []))
  refine own_st (fun t k => XS.aloadN X0.here hx rfl (hb hby d3_0) rfl rfl k) ?_
  show own_Go p e below K (s₁.setTop (mkF m 1 #[.val (.ref a1)] [(.ref a1)]))
  obtain ⟨_, _, ⟨T1, L1, k1, n1⟩, -, X1, ⟨Lc1, hQ1, l1, y1, z1⟩, st1⟩ := X0.specialBack hx (y := (⟨"java/util/AbstractList", "<init>", "()V"⟩ : MethodName)) rfl hown (mvT hZ (hw _ (List.mem_of_getElem? (i := 15) rfl))) (mvT hZ (hw _ (List.mem_of_getElem? (i := 16) rfl))) (mvT hZ (hw _ (List.mem_of_getElem? (i := 20) rfl))) (by decide) (backOf (W := 0) (rm4 l Z a0 hw [] a1 h0 n0 Z0 g_a1 P0 P1 P2 P3) hZ (hw _ (List.mem_of_getElem? (i := 20) rfl)) (hw _ (List.mem_of_getElem? (i := 19) rfl)) (by decide) (by decide)) (g := (mkF m 1 #[.val (.ref a1)] [(.ref a1)])) rfl (by rw [hml]; rfl) (Steps.refl _) (a := a1) (argsL := []) (rest := []) (lenOf pd_3_0 rfl) rfl (by show 2 * 0 + _ ≤ _; exact Nat.le_of_eq rfl) (hb hby d3_1) (fun _ _ => ⟨rfl, e0, (by decide : 0 + 0 ≤ _), (by decide : 0 + 0 ≤ _)⟩)
  dsimp only [Pt.U, Pt.locs, Pt.cells, Pt.slots] at X1 l1 y1 z1 st1 hQ1
  subst l1 y1 z1
  obtain ⟨rfl, N1q, Kq1, p1_0, p1_1, p1_2, p1_3⟩ := hQ1
  have N1 := Fr.app N0 N1q
  have f2 : Old Z n0 T1.heap := P4.keep Kq1 (allS (P := fun x => n0 ≤ x) g_a1 all0)
  have Z1 : n0 ≤ T1.heap.size := Nat.le_trans Z0 Kq1.1
  have K1 : Keep h0 T1.heap [a1] := (Keep.refl h0 [a1]).trans Kq1 (allS (P := fun x => x ∈ [a1] ∨ h0.size ≤ x) (Or.inl (List.mem_of_getElem? (i := 0) rfl)) all0)
  refine own_tr st1 ?_
  show own_Go p e below K (T1.setTop (mkF m 4 #[.val (.ref a1)] []))
  refine own_st (fun t k => XS.aloadN X1.here hx rfl (hb hby d3_4) rfl rfl k) ?_
  show own_Go p e below K (T1.setTop (mkF m 5 #[.val (.ref a1)] [(.ref a1)]))
  obtain ⟨T3, X3, e3, st3⟩ := getS2 X1 hx hZ hown (host := "") (Or.inl (hw _ (List.mem_of_getElem? (i := 30) rfl))) Via.refl rfl (SD.ext f2.2) (g := (mkF m 5 #[.val (.ref a1)] [(.ref a1)])) rfl (hb hby d3_5)
  refine own_st st3 ?_
  show own_Go p e below K (T3.setTop (mkF m 8 #[.val (.ref a1)] [(.ref xd), (.ref a1)]))
  obtain ⟨T4, h4, X4, e4, W4, st4⟩ := putF X3 hx hZ hown (host := "") (Or.inl (hw _ (List.mem_of_getElem? (i := 31) rfl))) Via.refl e3 p1_1 p1_0 (Or.inl (hw _ (List.mem_of_getElem? (i := 32) rfl))) (hw _ (List.mem_of_getElem? (i := 10) rfl)) (ty := (.array (.object "java/lang/Object"))) (by decide) rfl rfl (g := (mkF m 8 #[.val (.ref a1)] [(.ref xd), (.ref a1)])) rfl rfl (hb hby d3_8)
  have fw4 : Fld Z h4 a1 "java/util/ArrayList" "elementData" "[Ljava/lang/Object;" (.ref xd) := p1_1.same W4
  have f5 : Old Z n0 h4 := f2.wr W4 g_a1
  have f6 : Exa Z h4 a1 "java/util/ArrayList" := p1_0.wr W4
  have f7 : Fld Z h4 a1 "java/util/AbstractList" "modCount" "I" (.int (0 : Int32)) := p1_2.other W4 (Or.inr (slot_ne (Or.inl (hw _ (List.mem_of_getElem? (i := 29) rfl))) (Or.inl (hw _ (List.mem_of_getElem? (i := 32) rfl))) (by decide) (t := .int) (t' := (.array (.object "java/lang/Object"))) (by decide) (by decide)))
  have f8 : Fld Z h4 a1 "java/util/ArrayList" "size" "I" (.int (0 : Int32)) := p1_3.other W4 (Or.inr (slot_ne (Or.inl (hw _ (List.mem_of_getElem? (i := 89) rfl))) (Or.inl (hw _ (List.mem_of_getElem? (i := 32) rfl))) (by decide) (t := .int) (t' := (.array (.object "java/lang/Object"))) (by decide) (by decide)))
  have N4 := Fr.snoc X4 N1 g_a1
  have Z4 : n0 ≤ h4.size := Nat.le_trans Z1 (Keep.of_wr W4).1
  have K4 : Keep h0 h4 [a1] := K1.wr W4 (Or.inl (List.mem_of_getElem? (i := 0) rfl))
  refine own_st st4 ?_
  show own_Go p e below K (T4.setTop (mkF m 11 #[.val (.ref a1)] []))
  obtain ⟨fs, hr, hrun, hended, hW, hsame⟩ := X4.leave (v := none) (fun _ => rfl)
  refine ⟨_, X4.returnOut hx Bd.returns (hb hby d3_11) hr, fin _ _ _ hrun hended ?_ ⟨⟨_, rfl⟩, hW, hsame.mono (by decide) (by decide)⟩⟩
  show Q3 Z a1 xd h0 n0 _ T4.heap _
  rw [e4]
  exact ⟨rfl, N4, K4, f6, fw4, f7, f8⟩
theorem d8_0 : decode jdk_71_method_1_code 0 = .ok (.aload_n 0, 1) := by decide +kernel
theorem d8_1 : decode jdk_71_method_1_code 1 = .ok (.invokespecial 1, 3) := by decide +kernel
theorem d8_4 : decode jdk_71_method_1_code 4 = .ok (.return_, 1) := by decide +kernel
theorem pn_8 : plainName "java/util/AbstractMap" = true := by first | (simp [plainName, overriddenIn]; done) | decide +kernel
theorem ef_8 (m : MethodId) (x0 : Addr) : entryFrame m #[(.ref x0)] 1 = mkF m 0 #[.val (.ref x0)] [] := by first | (simp [entryFrame, mkF, argsToLocals, Value.category]; done) | rfl
def Q8 (Z : State) (a1 : Addr) (h0 : Heap) (n0 : Nat) (v : Option Value) (h : Heap) (L : List Loc) : Prop := v = none ∧ Fr n0 L ∧ h = h0
set_option maxRecDepth 65536 in
set_option maxHeartbeats 40000000 in
theorem rm8 (l : Launch) (Z : State) (a0 : Array Value) (hw : ∀ d ∈ tables_1, d.before a0 Z = true) (ws : List Jvm.Cond) (a1 : Addr) (h0 : Heap) (n0 : Nat) (Z0 : n0 ≤ h0.size)  :
    MetFree l (⟨"java/util/AbstractMap", "<init>", "()V"⟩ : MethodName) (head1 (Jvm.Cond.code (⟨"java/util/AbstractMap", "<init>", "()V"⟩ : MethodName) jdk_71_method_1_code 1 none :: ws) ({ frames := 1, cells := 0, slots := 0, locals := 12 } : Room)) (fun a U => a = #[(.ref a1)] ∧ Z.Warmed39 U.vm ∧ U.heap = h0) (fun _ _ _ _ _ => True) (fun _ U o U' => ∃ v L, o = .returned v ∧ Q8 Z a1 h0 n0 v U'.heap L ∧ FrameEnd U o U' L ({ frames := 1, cells := 0, slots := 0, locals := 12 } : Room).cells ({ frames := 1, cells := 0, slots := 0, locals := 12 } : Room).slots) := by
  refine MetFree.of_bodySF (plainFor_of_name pn_8) hisR ?_
  intro p e s m args below meth c s₁ Bd hml0 hP hK
  obtain ⟨rfl, hZ, hh⟩ := hP
  have hx := Bd.exec
  have hby := Bd.bytes
  have hml : c.maxLocals = 1 := hml0
  have hown : s.vm.findClass "java/util/AbstractMap" = some m.cls := findClass_of_methodNamed Bd.named
  have hnm := (name_of_methodNamed Bd.named Bd.method).1
  have X0 : Stand p l e ({ frames := 1, cells := 0, slots := 0, locals := 12 } : Room) s m #[(.ref a1)] below meth c s₁ [] 0 0 := Stand.of_body Bd
  have e0 : s₁.heap = h0 := by rw [← hh, Bd.state]; rfl
  have N0 := Fr.nil n0
  suffices G0 : ∀ K : State → Prop, (∀ (n : State) (v : Option Value) (L : List Loc), n.status = .running → Ended n below (.returned v) → Q8 Z a1 h0 n0 v n.heap L → FrameEnd s (.returned v) n L ({ frames := 1, cells := 0, slots := 0, locals := 12 } : Room).cells ({ frames := 1, cells := 0, slots := 0, locals := 12 } : Room).slots → K n) → own_Go p e below K (s₁.setTop (mkF m 0 #[.val (.ref a1)] [])) by
    obtain ⟨t, st, o, a, b, v, L, e1, q, fe⟩ := G0 (fun n => ∃ o, n.status = .running ∧ Ended n below o ∧ ∃ v L, o = .returned v ∧ Q8 Z a1 h0 n0 v n.heap L ∧ FrameEnd s o n L ({ frames := 1, cells := 0, slots := 0, locals := 12 } : Room).cells ({ frames := 1, cells := 0, slots := 0, locals := 12 } : Room).slots) (fun n v L a b q f => ⟨_, a, b, v, L, rfl, q, f⟩)
    exact ⟨t, o, castTop (ef_8 m a1) st, a, b, v, L, e1, q, fe⟩
  intro K fin
  show own_Go p e below K (s₁.setTop (mkF m 0 #[.val (.ref a1)] []))
  refine own_st (fun t k => XS.aloadN X0.here hx rfl (hb hby d8_0) rfl rfl k) ?_
  show own_Go p e below K (s₁.setTop (mkF m 1 #[.val (.ref a1)] [(.ref a1)]))
  obtain ⟨T1, X1, e1, st1⟩ := initO X0 hx hZ hown (hw _ (List.mem_of_getElem? (i := 55) rfl)) (hw _ (List.mem_of_getElem? (i := 7) rfl)) (hw _ (List.mem_of_getElem? (i := 8) rfl)) e0 (g := (mkF m 1 #[.val (.ref a1)] [(.ref a1)])) rfl (by rw [hml]; rfl) rfl (hb hby d8_1) (by decide) (W := 0) (by show 2 * 0 + _ ≤ _; exact Nat.le_of_eq rfl) (by decide)
  refine own_st st1 ?_
  show own_Go p e below K (T1.setTop (mkF m 4 #[.val (.ref a1)] []))
  obtain ⟨fs, hr, hrun, hended, hW, hsame⟩ := X1.leave (v := none) (fun _ => rfl)
  refine ⟨_, X1.returnOut hx Bd.returns (hb hby d8_4) hr, fin _ _ _ hrun hended ?_ ⟨⟨_, rfl⟩, hW, hsame.mono (by decide) (by decide)⟩⟩
  show Q8 Z a1 h0 n0 _ T1.heap _
  rw [e1]
  exact ⟨rfl, N0, rfl⟩
theorem d7_0 : decode jdk_69_method_7_code 0 = .ok (.aload_n 0, 1) := by decide +kernel
theorem d7_1 : decode jdk_69_method_7_code 1 = .ok (.invokespecial 43, 3) := by decide +kernel
theorem d7_4 : decode jdk_69_method_7_code 4 = .ok (.aload_n 0, 1) := by decide +kernel
theorem d7_5 : decode jdk_69_method_7_code 5 = .ok (.ldc 92, 2) := by decide +kernel
theorem d7_7 : decode jdk_69_method_7_code 7 = .ok (.putfield 81, 3) := by decide +kernel
theorem d7_10 : decode jdk_69_method_7_code 10 = .ok (.return_, 1) := by decide +kernel
theorem pn_7 : plainName "java/util/HashMap" = true := by first | (simp [plainName, overriddenIn]; done) | decide +kernel
theorem pd_7_0 : parseMethodDescriptor "()V" = some ⟨[], none⟩ := by decide +kernel
theorem ef_7 (m : MethodId) (x0 : Addr) : entryFrame m #[(.ref x0)] 1 = mkF m 0 #[.val (.ref x0)] [] := by first | (simp [entryFrame, mkF, argsToLocals, Value.category]; done) | rfl
def Q7 (Z : State) (a1 : Addr) (h0 : Heap) (n0 : Nat) (v : Option Value) (h : Heap) (L : List Loc) : Prop := v = none ∧ Fr n0 L ∧ Keep h0 h [a1] ∧ (Exa Z h a1 "java/util/LinkedHashMap") ∧ (Fld Z h a1 "java/util/HashMap" "loadFactor" "F" (.float (1061158912 : UInt32))) ∧ (Fld Z h a1 "java/util/LinkedHashMap" "putMode" "I" (.int (0 : Int32))) ∧ (Fld Z h a1 "java/util/LinkedHashMap" "accessOrder" "Z" (.int (0 : Int32)))
set_option maxRecDepth 65536 in
set_option maxHeartbeats 40000000 in
theorem rm7 (l : Launch) (Z : State) (a0 : Array Value) (hw : ∀ d ∈ tables_1, d.before a0 Z = true) (ws : List Jvm.Cond) (a1 : Addr) (h0 : Heap) (n0 : Nat) (Z0 : n0 ≤ h0.size) (g_a1 : n0 ≤ a1) (P0 : Exa Z h0 a1 "java/util/LinkedHashMap") (P1 : Fld Z h0 a1 "java/util/HashMap" "loadFactor" "F" (defaultValue .float)) (P2 : Fld Z h0 a1 "java/util/LinkedHashMap" "putMode" "I" (.int (0 : Int32))) (P3 : Fld Z h0 a1 "java/util/LinkedHashMap" "accessOrder" "Z" (.int (0 : Int32))) :
    MetFree l (⟨"java/util/HashMap", "<init>", "()V"⟩ : MethodName) (head1 (Jvm.Cond.code (⟨"java/util/HashMap", "<init>", "()V"⟩ : MethodName) jdk_69_method_7_code 1 none :: ws) ({ frames := 2, cells := 0, slots := 0, locals := 24 } : Room)) (fun a U => a = #[(.ref a1)] ∧ Z.Warmed39 U.vm ∧ U.heap = h0) (fun _ _ _ _ _ => True) (fun _ U o U' => ∃ v L, o = .returned v ∧ Q7 Z a1 h0 n0 v U'.heap L ∧ FrameEnd U o U' L ({ frames := 2, cells := 0, slots := 0, locals := 24 } : Room).cells ({ frames := 2, cells := 0, slots := 0, locals := 24 } : Room).slots) := by
  refine MetFree.of_bodySF (plainFor_of_name pn_7) hisR ?_
  intro p e s m args below meth c s₁ Bd hml0 hP hK
  obtain ⟨rfl, hZ, hh⟩ := hP
  have hx := Bd.exec
  have hby := Bd.bytes
  have hml : c.maxLocals = 1 := hml0
  have hown : s.vm.findClass "java/util/HashMap" = some m.cls := findClass_of_methodNamed Bd.named
  have hnm := (name_of_methodNamed Bd.named Bd.method).1
  have X0 : Stand p l e ({ frames := 2, cells := 0, slots := 0, locals := 24 } : Room) s m #[(.ref a1)] below meth c s₁ [] 0 0 := Stand.of_body Bd
  have e0 : s₁.heap = h0 := by rw [← hh, Bd.state]; rfl
  have N0 := Fr.nil n0
  suffices G0 : ∀ K : State → Prop, (∀ (n : State) (v : Option Value) (L : List Loc), n.status = .running → Ended n below (.returned v) → Q7 Z a1 h0 n0 v n.heap L → FrameEnd s (.returned v) n L ({ frames := 2, cells := 0, slots := 0, locals := 24 } : Room).cells ({ frames := 2, cells := 0, slots := 0, locals := 24 } : Room).slots → K n) → own_Go p e below K (s₁.setTop (mkF m 0 #[.val (.ref a1)] [])) by
    obtain ⟨t, st, o, a, b, v, L, e1, q, fe⟩ := G0 (fun n => ∃ o, n.status = .running ∧ Ended n below o ∧ ∃ v L, o = .returned v ∧ Q7 Z a1 h0 n0 v n.heap L ∧ FrameEnd s o n L ({ frames := 2, cells := 0, slots := 0, locals := 24 } : Room).cells ({ frames := 2, cells := 0, slots := 0, locals := 24 } : Room).slots) (fun n v L a b q f => ⟨_, a, b, v, L, rfl, q, f⟩)
    exact ⟨t, o, castTop (ef_7 m a1) st, a, b, v, L, e1, q, fe⟩
  intro K fin
  show own_Go p e below K (s₁.setTop (mkF m 0 #[.val (.ref a1)] []))
  refine own_st (fun t k => XS.aloadN X0.here hx rfl (hb hby d7_0) rfl rfl k) ?_
  show own_Go p e below K (s₁.setTop (mkF m 1 #[.val (.ref a1)] [(.ref a1)]))
  obtain ⟨_, _, ⟨T1, L1, k1, n1⟩, -, X1, ⟨Lc1, hQ1, l1, y1, z1⟩, st1⟩ := X0.specialBack hx (y := (⟨"java/util/AbstractMap", "<init>", "()V"⟩ : MethodName)) rfl hown (mvT hZ (hw _ (List.mem_of_getElem? (i := 49) rfl))) (mvT hZ (hw _ (List.mem_of_getElem? (i := 50) rfl))) (mvT hZ (hw _ (List.mem_of_getElem? (i := 54) rfl))) (by decide) (backOf (W := 0) (rm8 l Z a0 hw [] a1 h0 n0 Z0) hZ (hw _ (List.mem_of_getElem? (i := 54) rfl)) (hw _ (List.mem_of_getElem? (i := 53) rfl)) (by decide) (by decide)) (g := (mkF m 1 #[.val (.ref a1)] [(.ref a1)])) rfl (by rw [hml]; rfl) (Steps.refl _) (a := a1) (argsL := []) (rest := []) (lenOf pd_7_0 rfl) rfl (by show 2 * 0 + _ ≤ _; exact Nat.le_of_eq rfl) (hb hby d7_1) (fun _ _ => ⟨rfl, e0, (by decide : 0 + 0 ≤ _), (by decide : 0 + 0 ≤ _)⟩)
  dsimp only [Pt.U, Pt.locs, Pt.cells, Pt.slots] at X1 l1 y1 z1 st1 hQ1
  subst l1 y1 z1
  obtain ⟨rfl, N1q, e1⟩ := hQ1
  have N1 := Fr.app N0 N1q
  refine own_tr st1 ?_
  show own_Go p e below K (T1.setTop (mkF m 4 #[.val (.ref a1)] []))
  refine own_st (fun t k => XS.aloadN X1.here hx rfl (hb hby d7_4) rfl rfl k) ?_
  show own_Go p e below K (T1.setTop (mkF m 5 #[.val (.ref a1)] [(.ref a1)]))
  refine own_st (X1.ldcFloatC hx hown (mvT hZ (hw _ (List.mem_of_getElem? (i := 56) rfl))) (g := (mkF m 5 #[.val (.ref a1)] [(.ref a1)])) rfl (hb hby d7_5)) ?_
  show own_Go p e below K (T1.setTop (mkF m 7 #[.val (.ref a1)] [(.float (1061158912 : UInt32)), (.ref a1)]))
  obtain ⟨T2, h2, X2, e2, W2, st2⟩ := putF X1 hx hZ hown (host := "") (Or.inl (hw _ (List.mem_of_getElem? (i := 57) rfl))) Via.refl e1 P1 P0 (Or.inr ⟨(hw _ (List.mem_of_getElem? (i := 58) rfl)), rfl, hnm⟩) (hw _ (List.mem_of_getElem? (i := 38) rfl)) (ty := .float) (by decide) rfl rfl (g := (mkF m 7 #[.val (.ref a1)] [(.float (1061158912 : UInt32)), (.ref a1)])) rfl rfl (hb hby d7_7)
  have fw2 : Fld Z h2 a1 "java/util/HashMap" "loadFactor" "F" (.float (1061158912 : UInt32)) := P1.same W2
  have f3 : Exa Z h2 a1 "java/util/LinkedHashMap" := P0.wr W2
  have f4 : Fld Z h2 a1 "java/util/LinkedHashMap" "putMode" "I" (.int (0 : Int32)) := P2.other W2 (Or.inr (slot_ne (Or.inl (hw _ (List.mem_of_getElem? (i := 60) rfl))) (Or.inr (hw _ (List.mem_of_getElem? (i := 58) rfl))) (by decide) (t := .int) (t' := .float) (by decide) (by decide)))
  have f5 : Fld Z h2 a1 "java/util/LinkedHashMap" "accessOrder" "Z" (.int (0 : Int32)) := P3.other W2 (Or.inr (slot_ne (Or.inr (hw _ (List.mem_of_getElem? (i := 62) rfl))) (Or.inr (hw _ (List.mem_of_getElem? (i := 58) rfl))) (by decide) (t := .boolean) (t' := .float) (by decide) (by decide)))
  have N2 := Fr.snoc X2 N1 g_a1
  have Z2 : n0 ≤ h2.size := Nat.le_trans Z0 (Keep.of_wr W2).1
  have K2 : Keep h0 h2 [a1] := (Keep.refl h0 [a1]).wr W2 (Or.inl (List.mem_of_getElem? (i := 0) rfl))
  refine own_st st2 ?_
  show own_Go p e below K (T2.setTop (mkF m 10 #[.val (.ref a1)] []))
  obtain ⟨fs, hr, hrun, hended, hW, hsame⟩ := X2.leave (v := none) (fun _ => rfl)
  refine ⟨_, X2.returnOut hx Bd.returns (hb hby d7_10) hr, fin _ _ _ hrun hended ?_ ⟨⟨_, rfl⟩, hW, hsame.mono (by decide) (by decide)⟩⟩
  show Q7 Z a1 h0 n0 _ T2.heap _
  rw [e2]
  exact ⟨rfl, N2, K2, f3, fw2, f4, f5⟩
theorem d6_0 : decode jdk_94_method_16_code 0 = .ok (.aload_n 0, 1) := by decide +kernel
theorem d6_1 : decode jdk_94_method_16_code 1 = .ok (.invokespecial 87, 3) := by decide +kernel
theorem d6_4 : decode jdk_94_method_16_code 4 = .ok (.aload_n 0, 1) := by decide +kernel
theorem d6_5 : decode jdk_94_method_16_code 5 = .ok (.iconst 0, 1) := by decide +kernel
theorem d6_6 : decode jdk_94_method_16_code 6 = .ok (.putfield 1, 3) := by decide +kernel
theorem d6_9 : decode jdk_94_method_16_code 9 = .ok (.aload_n 0, 1) := by decide +kernel
theorem d6_10 : decode jdk_94_method_16_code 10 = .ok (.iconst 0, 1) := by decide +kernel
theorem d6_11 : decode jdk_94_method_16_code 11 = .ok (.putfield 64, 3) := by decide +kernel
theorem d6_14 : decode jdk_94_method_16_code 14 = .ok (.return_, 1) := by decide +kernel
theorem pn_6 : plainName "java/util/LinkedHashMap" = true := by first | (simp [plainName, overriddenIn]; done) | decide +kernel
theorem pd_6_0 : parseMethodDescriptor "()V" = some ⟨[], none⟩ := by decide +kernel
theorem ef_6 (m : MethodId) (x0 : Addr) : entryFrame m #[(.ref x0)] 1 = mkF m 0 #[.val (.ref x0)] [] := by first | (simp [entryFrame, mkF, argsToLocals, Value.category]; done) | rfl
def Q6 (Z : State) (a1 : Addr) (h0 : Heap) (n0 : Nat) (v : Option Value) (h : Heap) (L : List Loc) : Prop := v = none ∧ Fr n0 L ∧ Keep h0 h [a1] ∧ (Exa Z h a1 "java/util/LinkedHashMap")
set_option maxRecDepth 65536 in
set_option maxHeartbeats 40000000 in
theorem rm6 (l : Launch) (Z : State) (a0 : Array Value) (hw : ∀ d ∈ tables_1, d.before a0 Z = true) (ws : List Jvm.Cond) (a1 : Addr) (h0 : Heap) (n0 : Nat) (Z0 : n0 ≤ h0.size) (g_a1 : n0 ≤ a1) (P0 : Exa Z h0 a1 "java/util/LinkedHashMap") (P1 : Fld Z h0 a1 "java/util/HashMap" "loadFactor" "F" (defaultValue .float)) (P2 : Fld Z h0 a1 "java/util/LinkedHashMap" "putMode" "I" (.int (0 : Int32))) (P3 : Fld Z h0 a1 "java/util/LinkedHashMap" "accessOrder" "Z" (.int (0 : Int32))) :
    MetFree l (⟨"java/util/LinkedHashMap", "<init>", "()V"⟩ : MethodName) (head1 (Jvm.Cond.code (⟨"java/util/LinkedHashMap", "<init>", "()V"⟩ : MethodName) jdk_94_method_16_code 1 none :: ws) ({ frames := 3, cells := 0, slots := 0, locals := 36 } : Room)) (fun a U => a = #[(.ref a1)] ∧ Z.Warmed39 U.vm ∧ U.heap = h0) (fun _ _ _ _ _ => True) (fun _ U o U' => ∃ v L, o = .returned v ∧ Q6 Z a1 h0 n0 v U'.heap L ∧ FrameEnd U o U' L ({ frames := 3, cells := 0, slots := 0, locals := 36 } : Room).cells ({ frames := 3, cells := 0, slots := 0, locals := 36 } : Room).slots) := by
  refine MetFree.of_bodySF (plainFor_of_name pn_6) hisR ?_
  intro p e s m args below meth c s₁ Bd hml0 hP hK
  obtain ⟨rfl, hZ, hh⟩ := hP
  have hx := Bd.exec
  have hby := Bd.bytes
  have hml : c.maxLocals = 1 := hml0
  have hown : s.vm.findClass "java/util/LinkedHashMap" = some m.cls := findClass_of_methodNamed Bd.named
  have hnm := (name_of_methodNamed Bd.named Bd.method).1
  have X0 : Stand p l e ({ frames := 3, cells := 0, slots := 0, locals := 36 } : Room) s m #[(.ref a1)] below meth c s₁ [] 0 0 := Stand.of_body Bd
  have e0 : s₁.heap = h0 := by rw [← hh, Bd.state]; rfl
  have N0 := Fr.nil n0
  suffices G0 : ∀ K : State → Prop, (∀ (n : State) (v : Option Value) (L : List Loc), n.status = .running → Ended n below (.returned v) → Q6 Z a1 h0 n0 v n.heap L → FrameEnd s (.returned v) n L ({ frames := 3, cells := 0, slots := 0, locals := 36 } : Room).cells ({ frames := 3, cells := 0, slots := 0, locals := 36 } : Room).slots → K n) → own_Go p e below K (s₁.setTop (mkF m 0 #[.val (.ref a1)] [])) by
    obtain ⟨t, st, o, a, b, v, L, e1, q, fe⟩ := G0 (fun n => ∃ o, n.status = .running ∧ Ended n below o ∧ ∃ v L, o = .returned v ∧ Q6 Z a1 h0 n0 v n.heap L ∧ FrameEnd s o n L ({ frames := 3, cells := 0, slots := 0, locals := 36 } : Room).cells ({ frames := 3, cells := 0, slots := 0, locals := 36 } : Room).slots) (fun n v L a b q f => ⟨_, a, b, v, L, rfl, q, f⟩)
    exact ⟨t, o, castTop (ef_6 m a1) st, a, b, v, L, e1, q, fe⟩
  intro K fin
  show own_Go p e below K (s₁.setTop (mkF m 0 #[.val (.ref a1)] []))
  refine own_st (fun t k => XS.aloadN X0.here hx rfl (hb hby d6_0) rfl rfl k) ?_
  show own_Go p e below K (s₁.setTop (mkF m 1 #[.val (.ref a1)] [(.ref a1)]))
  obtain ⟨_, _, ⟨T1, L1, k1, n1⟩, -, X1, ⟨Lc1, hQ1, l1, y1, z1⟩, st1⟩ := X0.specialBack hx (y := (⟨"java/util/HashMap", "<init>", "()V"⟩ : MethodName)) rfl hown (mvT hZ (hw _ (List.mem_of_getElem? (i := 43) rfl))) (mvT hZ (hw _ (List.mem_of_getElem? (i := 44) rfl))) (mvT hZ (hw _ (List.mem_of_getElem? (i := 48) rfl))) (by decide) (backOf (W := 0) (rm7 l Z a0 hw [] a1 h0 n0 Z0 g_a1 P0 P1 P2 P3) hZ (hw _ (List.mem_of_getElem? (i := 48) rfl)) (hw _ (List.mem_of_getElem? (i := 47) rfl)) (by decide) (by decide)) (g := (mkF m 1 #[.val (.ref a1)] [(.ref a1)])) rfl (by rw [hml]; rfl) (Steps.refl _) (a := a1) (argsL := []) (rest := []) (lenOf pd_6_0 rfl) rfl (by show 2 * 0 + _ ≤ _; exact Nat.le_of_eq rfl) (hb hby d6_1) (fun _ _ => ⟨rfl, e0, (by decide : 0 + 0 ≤ _), (by decide : 0 + 0 ≤ _)⟩)
  dsimp only [Pt.U, Pt.locs, Pt.cells, Pt.slots] at X1 l1 y1 z1 st1 hQ1
  subst l1 y1 z1
  obtain ⟨rfl, N1q, Kq1, p1_0, p1_1, p1_2, p1_3⟩ := hQ1
  have N1 := Fr.app N0 N1q
  have Z1 : n0 ≤ T1.heap.size := Nat.le_trans Z0 Kq1.1
  have K1 : Keep h0 T1.heap [a1] := (Keep.refl h0 [a1]).trans Kq1 (allS (P := fun x => x ∈ [a1] ∨ h0.size ≤ x) (Or.inl (List.mem_of_getElem? (i := 0) rfl)) all0)
  refine own_tr st1 ?_
  show own_Go p e below K (T1.setTop (mkF m 4 #[.val (.ref a1)] []))
  refine own_st (fun t k => XS.aloadN X1.here hx rfl (hb hby d6_4) rfl rfl k) ?_
  show own_Go p e below K (T1.setTop (mkF m 5 #[.val (.ref a1)] [(.ref a1)]))
  refine own_st (fun t k => XS.iconst X1.here hx rfl (hb hby d6_5) k) ?_
  show own_Go p e below K (T1.setTop (mkF m 6 #[.val (.ref a1)] [(.int (0 : Int32)), (.ref a1)]))
  obtain ⟨T2, h2, X2, e2, W2, st2⟩ := putF X1 hx hZ hown (host := "") (Or.inl (hw _ (List.mem_of_getElem? (i := 59) rfl))) Via.refl rfl p1_2 p1_0 (Or.inl (hw _ (List.mem_of_getElem? (i := 60) rfl))) (hw _ (List.mem_of_getElem? (i := 38) rfl)) (ty := .int) (by decide) rfl rfl (g := (mkF m 6 #[.val (.ref a1)] [(.int (0 : Int32)), (.ref a1)])) rfl rfl (hb hby d6_6)
  have fw2 : Fld Z h2 a1 "java/util/LinkedHashMap" "putMode" "I" (.int (0 : Int32)) := p1_2.same W2
  have f3 : Exa Z h2 a1 "java/util/LinkedHashMap" := p1_0.wr W2
  have f4 : Fld Z h2 a1 "java/util/HashMap" "loadFactor" "F" (.float (1061158912 : UInt32)) := p1_1.other W2 (Or.inr (slot_ne (Or.inr (hw _ (List.mem_of_getElem? (i := 58) rfl))) (Or.inl (hw _ (List.mem_of_getElem? (i := 60) rfl))) (by decide) (t := .float) (t' := .int) (by decide) (by decide)))
  have f5 : Fld Z h2 a1 "java/util/LinkedHashMap" "accessOrder" "Z" (.int (0 : Int32)) := p1_3.other W2 (Or.inr (slot_ne (Or.inr (hw _ (List.mem_of_getElem? (i := 62) rfl))) (Or.inl (hw _ (List.mem_of_getElem? (i := 60) rfl))) (by decide) (t := .boolean) (t' := .int) (by decide) (by decide)))
  have N2 := Fr.snoc X2 N1 g_a1
  have Z2 : n0 ≤ h2.size := Nat.le_trans Z1 (Keep.of_wr W2).1
  have K2 : Keep h0 h2 [a1] := K1.wr W2 (Or.inl (List.mem_of_getElem? (i := 0) rfl))
  refine own_st st2 ?_
  show own_Go p e below K (T2.setTop (mkF m 9 #[.val (.ref a1)] []))
  refine own_st (fun t k => XS.aloadN X2.here hx rfl (hb hby d6_9) rfl rfl k) ?_
  show own_Go p e below K (T2.setTop (mkF m 10 #[.val (.ref a1)] [(.ref a1)]))
  refine own_st (fun t k => XS.iconst X2.here hx rfl (hb hby d6_10) k) ?_
  show own_Go p e below K (T2.setTop (mkF m 11 #[.val (.ref a1)] [(.int (0 : Int32)), (.ref a1)]))
  obtain ⟨T6, h6, X6, e6, W6, st6⟩ := putFN X2 hx hZ hown (hw _ (List.mem_of_getElem? (i := 61) rfl)) Via.refl e2 f5 f3 (Or.inr ⟨(hw _ (List.mem_of_getElem? (i := 62) rfl)), rfl, hnm⟩) (hw _ (List.mem_of_getElem? (i := 38) rfl)) (ty := .boolean) (v' := .int ((0 : Int32) &&& 1)) (by decide) rfl (fits_nar_bool _) (g := (mkF m 11 #[.val (.ref a1)] [(.int (0 : Int32)), (.ref a1)])) rfl rfl (hb hby d6_11)
  have fw6 : Fld Z h6 a1 "java/util/LinkedHashMap" "accessOrder" "Z" (.int ((0 : Int32) &&& 1)) := f5.same W6
  have f7 : Exa Z h6 a1 "java/util/LinkedHashMap" := f3.wr W6
  have f8 : Fld Z h6 a1 "java/util/HashMap" "loadFactor" "F" (.float (1061158912 : UInt32)) := f4.other W6 (Or.inr (slot_ne (Or.inr (hw _ (List.mem_of_getElem? (i := 58) rfl))) (Or.inr (hw _ (List.mem_of_getElem? (i := 62) rfl))) (by decide) (t := .float) (t' := .boolean) (by decide) (by decide)))
  have f9 : Fld Z h6 a1 "java/util/LinkedHashMap" "putMode" "I" (.int (0 : Int32)) := fw2.other W6 (Or.inr (slot_ne (Or.inl (hw _ (List.mem_of_getElem? (i := 60) rfl))) (Or.inr (hw _ (List.mem_of_getElem? (i := 62) rfl))) (by decide) (t := .int) (t' := .boolean) (by decide) (by decide)))
  have N6 := Fr.snoc X6 N2 g_a1
  have Z6 : n0 ≤ h6.size := Nat.le_trans Z2 (Keep.of_wr W6).1
  have K6 : Keep h0 h6 [a1] := K2.wr W6 (Or.inl (List.mem_of_getElem? (i := 0) rfl))
  refine own_st st6 ?_
  show own_Go p e below K (T6.setTop (mkF m 14 #[.val (.ref a1)] []))
  obtain ⟨fs, hr, hrun, hended, hW, hsame⟩ := X6.leave (v := none) (fun _ => rfl)
  refine ⟨_, X6.returnOut hx Bd.returns (hb hby d6_14) hr, fin _ _ _ hrun hended ?_ ⟨⟨_, rfl⟩, hW, hsame.mono (by decide) (by decide)⟩⟩
  show Q6 Z a1 h0 n0 _ T6.heap _
  rw [e6]
  exact ⟨rfl, N6, K6, f7⟩
theorem d1_0 : decode prog_38_method_1_code 0 = .ok (.aload_n 0, 1) := by decide +kernel
theorem d1_1 : decode prog_38_method_1_code 1 = .ok (.invokespecial 1, 3) := by decide +kernel
theorem d1_4 : decode prog_38_method_1_code 4 = .ok (.aload_n 0, 1) := by decide +kernel
theorem d1_5 : decode prog_38_method_1_code 5 = .ok (.new 7, 3) := by decide +kernel
theorem d1_8 : decode prog_38_method_1_code 8 = .ok (.dup, 1) := by decide +kernel
theorem d1_9 : decode prog_38_method_1_code 9 = .ok (.invokespecial 9, 3) := by decide +kernel
theorem d1_12 : decode prog_38_method_1_code 12 = .ok (.putfield 10, 3) := by decide +kernel
theorem d1_15 : decode prog_38_method_1_code 15 = .ok (.aload_n 0, 1) := by decide +kernel
theorem d1_16 : decode prog_38_method_1_code 16 = .ok (.new 7, 3) := by decide +kernel
theorem d1_19 : decode prog_38_method_1_code 19 = .ok (.dup, 1) := by decide +kernel
theorem d1_20 : decode prog_38_method_1_code 20 = .ok (.invokespecial 9, 3) := by decide +kernel
theorem d1_23 : decode prog_38_method_1_code 23 = .ok (.putfield 16, 3) := by decide +kernel
theorem d1_26 : decode prog_38_method_1_code 26 = .ok (.aload_n 0, 1) := by decide +kernel
theorem d1_27 : decode prog_38_method_1_code 27 = .ok (.new 19, 3) := by decide +kernel
theorem d1_30 : decode prog_38_method_1_code 30 = .ok (.dup, 1) := by decide +kernel
theorem d1_31 : decode prog_38_method_1_code 31 = .ok (.invokespecial 21, 3) := by decide +kernel
theorem d1_34 : decode prog_38_method_1_code 34 = .ok (.putfield 22, 3) := by decide +kernel
theorem d1_37 : decode prog_38_method_1_code 37 = .ok (.aload_n 0, 1) := by decide +kernel
theorem d1_38 : decode prog_38_method_1_code 38 = .ok (.new 7, 3) := by decide +kernel
theorem d1_41 : decode prog_38_method_1_code 41 = .ok (.dup, 1) := by decide +kernel
theorem d1_42 : decode prog_38_method_1_code 42 = .ok (.invokespecial 9, 3) := by decide +kernel
theorem d1_45 : decode prog_38_method_1_code 45 = .ok (.putfield 26, 3) := by decide +kernel
theorem d1_48 : decode prog_38_method_1_code 48 = .ok (.return_, 1) := by decide +kernel
theorem pn_1 : plainName "com/example/coverbill/coverbill/charge/PriceItemChanges" = true := by first | (simp [plainName, overriddenIn]; done) | decide +kernel
theorem pd_1_0 : parseMethodDescriptor "()V" = some ⟨[], none⟩ := by decide +kernel
theorem ef_1 (m : MethodId) (x0 : Addr) : entryFrame m #[(.ref x0)] 1 = mkF m 0 #[.val (.ref x0)] [] := by first | (simp [entryFrame, mkF, argsToLocals, Value.category]; done) | rfl
def Q1 (Z : State) (a1 : Addr) (xd : Addr) (h0 : Heap) (n0 : Nat) (v : Option Value) (h : Heap) (L : List Loc) : Prop := ∃ (xc : Addr) (xu : Addr), v = none ∧ Fr n0 L ∧ Keep h0 h [a1] ∧ (Exa Z h a1 "com/example/coverbill/coverbill/charge/PriceItemChanges") ∧ (Fld Z h a1 "com/example/coverbill/coverbill/charge/PriceItemChanges" "created" "Ljava/util/List;" (.ref xc)) ∧ (Fld Z h a1 "com/example/coverbill/coverbill/charge/PriceItemChanges" "updated" "Ljava/util/List;" (.ref xu)) ∧ (Fld Z h a1 "com/example/coverbill/coverbill/charge/PriceItemChanges" "complete" "I" (.int (0 : Int32))) ∧ (Fld Z h a1 "com/example/coverbill/coverbill/charge/PriceItemChanges" "failed" "I" (.int (0 : Int32))) ∧ (Fld Z h a1 "com/example/coverbill/coverbill/charge/PriceItemChanges" "endDatesChanged" "I" (.int (0 : Int32))) ∧ (Fld Z h a1 "com/example/coverbill/coverbill/charge/PriceItemChanges" "canceled" "I" (.int (0 : Int32))) ∧ (Exa Z h xc "java/util/ArrayList") ∧ (Fld Z h xc "java/util/ArrayList" "elementData" "[Ljava/lang/Object;" (.ref xd)) ∧ (Fld Z h xc "java/util/AbstractList" "modCount" "I" (.int (0 : Int32))) ∧ (Fld Z h xc "java/util/ArrayList" "size" "I" (.int (0 : Int32))) ∧ (Exa Z h xu "java/util/ArrayList") ∧ (Fld Z h xu "java/util/ArrayList" "elementData" "[Ljava/lang/Object;" (.ref xd)) ∧ (Fld Z h xu "java/util/AbstractList" "modCount" "I" (.int (0 : Int32))) ∧ (Fld Z h xu "java/util/ArrayList" "size" "I" (.int (0 : Int32))) ∧ (h0.size ≤ xc) ∧ (h0.size ≤ xu) ∧ (xc ≠ xu)
set_option maxRecDepth 65536 in
set_option maxHeartbeats 40000000 in
theorem rm1 (l : Launch) (Z : State) (a0 : Array Value) (hw : ∀ d ∈ tables_1, d.before a0 Z = true) (ws : List Jvm.Cond) (a1 : Addr) (xd : Addr) (h0 : Heap) (n0 : Nat) (Z0 : n0 ≤ h0.size) (g_a1 : n0 ≤ a1) (P0 : Exa Z h0 a1 "com/example/coverbill/coverbill/charge/PriceItemChanges") (P1 : Fld Z h0 a1 "com/example/coverbill/coverbill/charge/PriceItemChanges" "created" "Ljava/util/List;" .null) (P2 : Fld Z h0 a1 "com/example/coverbill/coverbill/charge/PriceItemChanges" "updated" "Ljava/util/List;" .null) (P3 : Fld Z h0 a1 "com/example/coverbill/coverbill/charge/PriceItemChanges" "lastDays" "Ljava/util/Map;" .null) (P4 : Fld Z h0 a1 "com/example/coverbill/coverbill/charge/PriceItemChanges" "errors" "Ljava/util/List;" .null) (P5 : Fld Z h0 a1 "com/example/coverbill/coverbill/charge/PriceItemChanges" "complete" "I" (.int (0 : Int32))) (P6 : Fld Z h0 a1 "com/example/coverbill/coverbill/charge/PriceItemChanges" "failed" "I" (.int (0 : Int32))) (P7 : Fld Z h0 a1 "com/example/coverbill/coverbill/charge/PriceItemChanges" "endDatesChanged" "I" (.int (0 : Int32))) (P8 : Fld Z h0 a1 "com/example/coverbill/coverbill/charge/PriceItemChanges" "canceled" "I" (.int (0 : Int32))) (P9 : Old Z n0 h0) (SD : Sta Z Z.heap "java/util/ArrayList" "DEFAULTCAPACITY_EMPTY_ELEMENTDATA" "[Ljava/lang/Object;" (.ref xd)) :
    MetFree l (⟨"com/example/coverbill/coverbill/charge/PriceItemChanges", "<init>", "()V"⟩ : MethodName) (head1 (Jvm.Cond.code (⟨"com/example/coverbill/coverbill/charge/PriceItemChanges", "<init>", "()V"⟩ : MethodName) prog_38_method_1_code 1 none :: ws) ({ frames := 4, cells := 4, slots := 21, locals := 50 } : Room)) (fun a U => a = #[(.ref a1)] ∧ Z.Warmed39 U.vm ∧ U.heap = h0) (fun _ _ _ _ _ => True) (fun _ U o U' => ∃ v L, o = .returned v ∧ Q1 Z a1 xd h0 n0 v U'.heap L ∧ FrameEnd U o U' L ({ frames := 4, cells := 4, slots := 21, locals := 50 } : Room).cells ({ frames := 4, cells := 4, slots := 21, locals := 50 } : Room).slots) := by
  refine MetFree.of_bodySF (plainFor_of_name pn_1) hisR ?_
  intro p e s m args below meth c s₁ Bd hml0 hP hK
  obtain ⟨rfl, hZ, hh⟩ := hP
  have hx := Bd.exec
  have hby := Bd.bytes
  have hml : c.maxLocals = 1 := hml0
  have hown : s.vm.findClass "com/example/coverbill/coverbill/charge/PriceItemChanges" = some m.cls := findClass_of_methodNamed Bd.named
  have hnm := (name_of_methodNamed Bd.named Bd.method).1
  have X0 : Stand p l e ({ frames := 4, cells := 4, slots := 21, locals := 50 } : Room) s m #[(.ref a1)] below meth c s₁ [] 0 0 := Stand.of_body Bd
  have e0 : s₁.heap = h0 := by rw [← hh, Bd.state]; rfl
  have N0 := Fr.nil n0
  suffices G0 : ∀ K : State → Prop, (∀ (n : State) (v : Option Value) (L : List Loc), n.status = .running → Ended n below (.returned v) → Q1 Z a1 xd h0 n0 v n.heap L → FrameEnd s (.returned v) n L ({ frames := 4, cells := 4, slots := 21, locals := 50 } : Room).cells ({ frames := 4, cells := 4, slots := 21, locals := 50 } : Room).slots → K n) → own_Go p e below K (s₁.setTop (mkF m 0 #[.val (.ref a1)] [])) by
    obtain ⟨t, st, o, a, b, v, L, e1, q, fe⟩ := G0 (fun n => ∃ o, n.status = .running ∧ Ended n below o ∧ ∃ v L, o = .returned v ∧ Q1 Z a1 xd h0 n0 v n.heap L ∧ FrameEnd s o n L ({ frames := 4, cells := 4, slots := 21, locals := 50 } : Room).cells ({ frames := 4, cells := 4, slots := 21, locals := 50 } : Room).slots) (fun n v L a b q f => ⟨_, a, b, v, L, rfl, q, f⟩)
    exact ⟨t, o, castTop (ef_1 m a1) st, a, b, v, L, e1, q, fe⟩
  intro K fin
  show own_Go p e below K (s₁.setTop (mkF m 0 #[.val (.ref a1)] []))
  refine own_st (fun t k => XS.aloadN X0.here hx rfl (hb hby d1_0) rfl rfl k) ?_
  show own_Go p e below K (s₁.setTop (mkF m 1 #[.val (.ref a1)] [(.ref a1)]))
  obtain ⟨T1, X1, e1, st1⟩ := initO X0 hx hZ hown (hw _ (List.mem_of_getElem? (i := 6) rfl)) (hw _ (List.mem_of_getElem? (i := 7) rfl)) (hw _ (List.mem_of_getElem? (i := 8) rfl)) e0 (g := (mkF m 1 #[.val (.ref a1)] [(.ref a1)])) rfl (by rw [hml]; rfl) rfl (hb hby d1_1) (by decide) (W := 0) (by show 2 * 0 + _ ≤ _; exact Nat.le_of_eq rfl) (by decide)
  refine own_st st1 ?_
  show own_Go p e below K (T1.setTop (mkF m 4 #[.val (.ref a1)] []))
  refine own_st (fun t k => XS.aloadN X1.here hx rfl (hb hby d1_4) rfl rfl k) ?_
  show own_Go p e below K (T1.setTop (mkF m 5 #[.val (.ref a1)] [(.ref a1)]))
  obtain ⟨T2, h2, X2, e2, E2, A2, D2, -, st2⟩ := newO X1 hx hZ hown (hw _ (List.mem_of_getElem? (i := 9) rfl)) (hw _ (List.mem_of_getElem? (i := 10) rfl)) (hw _ (List.mem_of_getElem? (i := 11) rfl)) e1 (g := (mkF m 5 #[.val (.ref a1)] [(.ref a1)])) rfl (hb hby d1_5) (by decide) (by decide)
  obtain ⟨b2, g2⟩ : ∃ z, z = h0.size := ⟨_, rfl⟩
  rw [← g2] at A2 D2 st2
  have ne_a1_b2 : a1 ≠ b2 := Nat.ne_of_lt (Nat.lt_of_lt_of_le P0.lt (Nat.le_of_eq g2.symm))
  have g_b2 : n0 ≤ b2 := Nat.le_trans Z0 (Nat.le_of_eq g2.symm)
  have sz_b2 : h0.size ≤ b2 := Nat.le_trans (Keep.refl h0 [a1]).1 (Nat.le_of_eq g2.symm)
  have f3 : Exa Z h2 a1 "com/example/coverbill/coverbill/charge/PriceItemChanges" := P0.ext E2
  have f4 : Fld Z h2 a1 "com/example/coverbill/coverbill/charge/PriceItemChanges" "created" "Ljava/util/List;" .null := P1.ext E2
  have f5 : Fld Z h2 a1 "com/example/coverbill/coverbill/charge/PriceItemChanges" "updated" "Ljava/util/List;" .null := P2.ext E2
  have f6 : Fld Z h2 a1 "com/example/coverbill/coverbill/charge/PriceItemChanges" "lastDays" "Ljava/util/Map;" .null := P3.ext E2
  have f7 : Fld Z h2 a1 "com/example/coverbill/coverbill/charge/PriceItemChanges" "errors" "Ljava/util/List;" .null := P4.ext E2
  have f8 : Fld Z h2 a1 "com/example/coverbill/coverbill/charge/PriceItemChanges" "complete" "I" (.int (0 : Int32)) := P5.ext E2
  have f9 : Fld Z h2 a1 "com/example/coverbill/coverbill/charge/PriceItemChanges" "failed" "I" (.int (0 : Int32)) := P6.ext E2
  have f10 : Fld Z h2 a1 "com/example/coverbill/coverbill/charge/PriceItemChanges" "endDatesChanged" "I" (.int (0 : Int32)) := P7.ext E2
  have f11 : Fld Z h2 a1 "com/example/coverbill/coverbill/charge/PriceItemChanges" "canceled" "I" (.int (0 : Int32)) := P8.ext E2
  have f12 : Old Z n0 h2 := P9.ext E2
  have f13 : Fld Z h2 b2 "java/util/AbstractList" "modCount" "I" (.int (0 : Int32)) := D2 (Or.inl (hw _ (List.mem_of_getElem? (i := 29) rfl))) (ty := .int) (by decide)
  have f14 : Fld Z h2 b2 "java/util/ArrayList" "elementData" "[Ljava/lang/Object;" .null := D2 (Or.inl (hw _ (List.mem_of_getElem? (i := 32) rfl))) (ty := (.array (.object "java/lang/Object"))) (by decide)
  have f15 : Fld Z h2 b2 "java/util/ArrayList" "size" "I" (.int (0 : Int32)) := D2 (Or.inl (hw _ (List.mem_of_getElem? (i := 89) rfl))) (ty := .int) (by decide)
  have Z2 : n0 ≤ h2.size := Nat.le_trans Z0 E2.1
  have K2 : Keep h0 h2 [a1] := (Keep.refl h0 [a1]).ext E2
  refine own_st st2 ?_
  show own_Go p e below K (T2.setTop (mkF m 8 #[.val (.ref a1)] [(.ref b2), (.ref a1)]))
  refine own_st (fun t k => XS.dup X2.here hx rfl (hb hby d1_8) rfl rfl k) ?_
  show own_Go p e below K (T2.setTop (mkF m 9 #[.val (.ref a1)] [(.ref b2), (.ref b2), (.ref a1)]))
  obtain ⟨_, _, ⟨T16, L16, k16, n16⟩, -, X16, ⟨Lc16, hQ16, l16, y16, z16⟩, st16⟩ := X2.specialBack hx (y := (⟨"java/util/ArrayList", "<init>", "()V"⟩ : MethodName)) rfl hown (mvT hZ (hw _ (List.mem_of_getElem? (i := 12) rfl))) (mvT hZ (hw _ (List.mem_of_getElem? (i := 13) rfl))) (mvT hZ (hw _ (List.mem_of_getElem? (i := 14) rfl))) (by decide) (backOf (W := 2) (rm3 l Z a0 hw [] b2 (xd) h2 n0 Z2 g_b2 A2 f14 f13 f15 f12 SD) hZ (hw _ (List.mem_of_getElem? (i := 14) rfl)) (hw _ (List.mem_of_getElem? (i := 11) rfl)) (by decide) (by decide)) (g := (mkF m 9 #[.val (.ref a1)] [(.ref b2), (.ref b2), (.ref a1)])) rfl (by rw [hml]; rfl) (Steps.refl _) (a := b2) (argsL := []) (rest := [(.ref b2), (.ref a1)]) (lenOf pd_1_0 rfl) rfl (by show 2 * 0 + _ ≤ _; exact Nat.le_of_eq rfl) (hb hby d1_9) (fun _ _ => ⟨rfl, e2, (by decide : 1 + 0 ≤ _), (by decide : 3 + 0 ≤ _)⟩)
  dsimp only [Pt.U, Pt.locs, Pt.cells, Pt.slots] at X16 l16 y16 z16 st16 hQ16
  subst l16 y16 z16
  obtain ⟨rfl, N16q, Kq16, p16_0, p16_1, p16_2, p16_3⟩ := hQ16
  have N16 := Fr.app N0 N16q
  have f17 : Exa Z T16.heap a1 "com/example/coverbill/coverbill/charge/PriceItemChanges" := f3.keep Kq16
  have f18 : Fld Z T16.heap a1 "com/example/coverbill/coverbill/charge/PriceItemChanges" "created" "Ljava/util/List;" .null := f4.keep Kq16 (ninS ne_a1_b2 nin0)
  have f19 : Fld Z T16.heap a1 "com/example/coverbill/coverbill/charge/PriceItemChanges" "updated" "Ljava/util/List;" .null := f5.keep Kq16 (ninS ne_a1_b2 nin0)
  have f20 : Fld Z T16.heap a1 "com/example/coverbill/coverbill/charge/PriceItemChanges" "lastDays" "Ljava/util/Map;" .null := f6.keep Kq16 (ninS ne_a1_b2 nin0)
  have f21 : Fld Z T16.heap a1 "com/example/coverbill/coverbill/charge/PriceItemChanges" "errors" "Ljava/util/List;" .null := f7.keep Kq16 (ninS ne_a1_b2 nin0)
  have f22 : Fld Z T16.heap a1 "com/example/coverbill/coverbill/charge/PriceItemChanges" "complete" "I" (.int (0 : Int32)) := f8.keep Kq16 (ninS ne_a1_b2 nin0)
  have f23 : Fld Z T16.heap a1 "com/example/coverbill/coverbill/charge/PriceItemChanges" "failed" "I" (.int (0 : Int32)) := f9.keep Kq16 (ninS ne_a1_b2 nin0)
  have f24 : Fld Z T16.heap a1 "com/example/coverbill/coverbill/charge/PriceItemChanges" "endDatesChanged" "I" (.int (0 : Int32)) := f10.keep Kq16 (ninS ne_a1_b2 nin0)
  have f25 : Fld Z T16.heap a1 "com/example/coverbill/coverbill/charge/PriceItemChanges" "canceled" "I" (.int (0 : Int32)) := f11.keep Kq16 (ninS ne_a1_b2 nin0)
  have f26 : Old Z n0 T16.heap := f12.keep Kq16 (allS (P := fun x => n0 ≤ x) g_b2 all0)
  have Z16 : n0 ≤ T16.heap.size := Nat.le_trans Z2 Kq16.1
  have K16 : Keep h0 T16.heap [a1] := K2.trans Kq16 (allS (P := fun x => x ∈ [a1] ∨ h0.size ≤ x) (Or.inr sz_b2) all0)
  refine own_tr st16 ?_
  show own_Go p e below K (T16.setTop (mkF m 12 #[.val (.ref a1)] [(.ref b2), (.ref a1)]))
  obtain ⟨T27, h27, X27, e27, W27, st27⟩ := putF X16 hx hZ hown (host := "") (Or.inl (hw _ (List.mem_of_getElem? (i := 33) rfl))) Via.refl rfl f18 f17 (Or.inr ⟨(hw _ (List.mem_of_getElem? (i := 34) rfl)), rfl, hnm⟩) (hw _ (List.mem_of_getElem? (i := 1) rfl)) (ty := (.object "java/util/List")) (by decide) rfl rfl (g := (mkF m 12 #[.val (.ref a1)] [(.ref b2), (.ref a1)])) rfl rfl (hb hby d1_12)
  have fw27 : Fld Z h27 a1 "com/example/coverbill/coverbill/charge/PriceItemChanges" "created" "Ljava/util/List;" (.ref b2) := f18.same W27
  have f28 : Exa Z h27 a1 "com/example/coverbill/coverbill/charge/PriceItemChanges" := f17.wr W27
  have f29 : Fld Z h27 a1 "com/example/coverbill/coverbill/charge/PriceItemChanges" "updated" "Ljava/util/List;" .null := f19.other W27 (Or.inr (slot_ne (Or.inr (hw _ (List.mem_of_getElem? (i := 36) rfl))) (Or.inr (hw _ (List.mem_of_getElem? (i := 34) rfl))) (by decide) (t := (.object "java/util/List")) (t' := (.object "java/util/List")) (by decide) (by decide)))
  have f30 : Fld Z h27 a1 "com/example/coverbill/coverbill/charge/PriceItemChanges" "lastDays" "Ljava/util/Map;" .null := f20.other W27 (Or.inr (slot_ne (Or.inr (hw _ (List.mem_of_getElem? (i := 64) rfl))) (Or.inr (hw _ (List.mem_of_getElem? (i := 34) rfl))) (by decide) (t := (.object "java/util/Map")) (t' := (.object "java/util/List")) (by decide) (by decide)))
  have f31 : Fld Z h27 a1 "com/example/coverbill/coverbill/charge/PriceItemChanges" "errors" "Ljava/util/List;" .null := f21.other W27 (Or.inr (slot_ne (Or.inr (hw _ (List.mem_of_getElem? (i := 66) rfl))) (Or.inr (hw _ (List.mem_of_getElem? (i := 34) rfl))) (by decide) (t := (.object "java/util/List")) (t' := (.object "java/util/List")) (by decide) (by decide)))
  have f32 : Fld Z h27 a1 "com/example/coverbill/coverbill/charge/PriceItemChanges" "complete" "I" (.int (0 : Int32)) := f22.other W27 (Or.inr (slot_ne (Or.inl (hw _ (List.mem_of_getElem? (i := 120) rfl))) (Or.inr (hw _ (List.mem_of_getElem? (i := 34) rfl))) (by decide) (t := .int) (t' := (.object "java/util/List")) (by decide) (by decide)))
  have f33 : Fld Z h27 a1 "com/example/coverbill/coverbill/charge/PriceItemChanges" "failed" "I" (.int (0 : Int32)) := f23.other W27 (Or.inr (slot_ne (Or.inl (hw _ (List.mem_of_getElem? (i := 122) rfl))) (Or.inr (hw _ (List.mem_of_getElem? (i := 34) rfl))) (by decide) (t := .int) (t' := (.object "java/util/List")) (by decide) (by decide)))
  have f34 : Fld Z h27 a1 "com/example/coverbill/coverbill/charge/PriceItemChanges" "endDatesChanged" "I" (.int (0 : Int32)) := f24.other W27 (Or.inr (slot_ne (Or.inl (hw _ (List.mem_of_getElem? (i := 132) rfl))) (Or.inr (hw _ (List.mem_of_getElem? (i := 34) rfl))) (by decide) (t := .int) (t' := (.object "java/util/List")) (by decide) (by decide)))
  have f35 : Fld Z h27 a1 "com/example/coverbill/coverbill/charge/PriceItemChanges" "canceled" "I" (.int (0 : Int32)) := f25.other W27 (Or.inr (slot_ne (Or.inl (hw _ (List.mem_of_getElem? (i := 134) rfl))) (Or.inr (hw _ (List.mem_of_getElem? (i := 34) rfl))) (by decide) (t := .int) (t' := (.object "java/util/List")) (by decide) (by decide)))
  have f36 : Old Z n0 h27 := f26.wr W27 g_a1
  have f37 : Exa Z h27 b2 "java/util/ArrayList" := p16_0.wr W27
  have f38 : Fld Z h27 b2 "java/util/ArrayList" "elementData" "[Ljava/lang/Object;" (.ref xd) := p16_1.other W27 (Or.inl (Ne.symm ne_a1_b2))
  have f39 : Fld Z h27 b2 "java/util/AbstractList" "modCount" "I" (.int (0 : Int32)) := p16_2.other W27 (Or.inl (Ne.symm ne_a1_b2))
  have f40 : Fld Z h27 b2 "java/util/ArrayList" "size" "I" (.int (0 : Int32)) := p16_3.other W27 (Or.inl (Ne.symm ne_a1_b2))
  have N27 := Fr.snoc X27 N16 g_a1
  have Z27 : n0 ≤ h27.size := Nat.le_trans Z16 (Keep.of_wr W27).1
  have K27 : Keep h0 h27 [a1] := K16.wr W27 (Or.inl (List.mem_of_getElem? (i := 0) rfl))
  refine own_st st27 ?_
  show own_Go p e below K (T27.setTop (mkF m 15 #[.val (.ref a1)] []))
  refine own_st (fun t k => XS.aloadN X27.here hx rfl (hb hby d1_15) rfl rfl k) ?_
  show own_Go p e below K (T27.setTop (mkF m 16 #[.val (.ref a1)] [(.ref a1)]))
  obtain ⟨T41, h41, X41, e41, E41, A41, D41, -, st41⟩ := newO X27 hx hZ hown (hw _ (List.mem_of_getElem? (i := 9) rfl)) (hw _ (List.mem_of_getElem? (i := 10) rfl)) (hw _ (List.mem_of_getElem? (i := 11) rfl)) e27 (g := (mkF m 16 #[.val (.ref a1)] [(.ref a1)])) rfl (hb hby d1_16) (by decide) (by decide)
  obtain ⟨b41, g41⟩ : ∃ z, z = h27.size := ⟨_, rfl⟩
  rw [← g41] at A41 D41 st41
  have ne_a1_b41 : a1 ≠ b41 := Nat.ne_of_lt (Nat.lt_of_lt_of_le f28.lt (Nat.le_of_eq g41.symm))
  have ne_b2_b41 : b2 ≠ b41 := Nat.ne_of_lt (Nat.lt_of_lt_of_le f37.lt (Nat.le_of_eq g41.symm))
  have g_b41 : n0 ≤ b41 := Nat.le_trans Z27 (Nat.le_of_eq g41.symm)
  have sz_b41 : h0.size ≤ b41 := Nat.le_trans K27.1 (Nat.le_of_eq g41.symm)
  have f42 : Exa Z h41 a1 "com/example/coverbill/coverbill/charge/PriceItemChanges" := f28.ext E41
  have f43 : Fld Z h41 a1 "com/example/coverbill/coverbill/charge/PriceItemChanges" "created" "Ljava/util/List;" (.ref b2) := fw27.ext E41
  have f44 : Fld Z h41 a1 "com/example/coverbill/coverbill/charge/PriceItemChanges" "updated" "Ljava/util/List;" .null := f29.ext E41
  have f45 : Fld Z h41 a1 "com/example/coverbill/coverbill/charge/PriceItemChanges" "lastDays" "Ljava/util/Map;" .null := f30.ext E41
  have f46 : Fld Z h41 a1 "com/example/coverbill/coverbill/charge/PriceItemChanges" "errors" "Ljava/util/List;" .null := f31.ext E41
  have f47 : Fld Z h41 a1 "com/example/coverbill/coverbill/charge/PriceItemChanges" "complete" "I" (.int (0 : Int32)) := f32.ext E41
  have f48 : Fld Z h41 a1 "com/example/coverbill/coverbill/charge/PriceItemChanges" "failed" "I" (.int (0 : Int32)) := f33.ext E41
  have f49 : Fld Z h41 a1 "com/example/coverbill/coverbill/charge/PriceItemChanges" "endDatesChanged" "I" (.int (0 : Int32)) := f34.ext E41
  have f50 : Fld Z h41 a1 "com/example/coverbill/coverbill/charge/PriceItemChanges" "canceled" "I" (.int (0 : Int32)) := f35.ext E41
  have f51 : Old Z n0 h41 := f36.ext E41
  have f52 : Exa Z h41 b2 "java/util/ArrayList" := f37.ext E41
  have f53 : Fld Z h41 b2 "java/util/ArrayList" "elementData" "[Ljava/lang/Object;" (.ref xd) := f38.ext E41
  have f54 : Fld Z h41 b2 "java/util/AbstractList" "modCount" "I" (.int (0 : Int32)) := f39.ext E41
  have f55 : Fld Z h41 b2 "java/util/ArrayList" "size" "I" (.int (0 : Int32)) := f40.ext E41
  have f56 : Fld Z h41 b41 "java/util/AbstractList" "modCount" "I" (.int (0 : Int32)) := D41 (Or.inl (hw _ (List.mem_of_getElem? (i := 29) rfl))) (ty := .int) (by decide)
  have f57 : Fld Z h41 b41 "java/util/ArrayList" "elementData" "[Ljava/lang/Object;" .null := D41 (Or.inl (hw _ (List.mem_of_getElem? (i := 32) rfl))) (ty := (.array (.object "java/lang/Object"))) (by decide)
  have f58 : Fld Z h41 b41 "java/util/ArrayList" "size" "I" (.int (0 : Int32)) := D41 (Or.inl (hw _ (List.mem_of_getElem? (i := 89) rfl))) (ty := .int) (by decide)
  have Z41 : n0 ≤ h41.size := Nat.le_trans Z27 E41.1
  have K41 : Keep h0 h41 [a1] := K27.ext E41
  refine own_st st41 ?_
  show own_Go p e below K (T41.setTop (mkF m 19 #[.val (.ref a1)] [(.ref b41), (.ref a1)]))
  refine own_st (fun t k => XS.dup X41.here hx rfl (hb hby d1_19) rfl rfl k) ?_
  show own_Go p e below K (T41.setTop (mkF m 20 #[.val (.ref a1)] [(.ref b41), (.ref b41), (.ref a1)]))
  obtain ⟨_, _, ⟨T59, L59, k59, n59⟩, -, X59, ⟨Lc59, hQ59, l59, y59, z59⟩, st59⟩ := X41.specialBack hx (y := (⟨"java/util/ArrayList", "<init>", "()V"⟩ : MethodName)) rfl hown (mvT hZ (hw _ (List.mem_of_getElem? (i := 12) rfl))) (mvT hZ (hw _ (List.mem_of_getElem? (i := 13) rfl))) (mvT hZ (hw _ (List.mem_of_getElem? (i := 14) rfl))) (by decide) (backOf (W := 2) (rm3 l Z a0 hw [] b41 (xd) h41 n0 Z41 g_b41 A41 f57 f56 f58 f51 SD) hZ (hw _ (List.mem_of_getElem? (i := 14) rfl)) (hw _ (List.mem_of_getElem? (i := 11) rfl)) (by decide) (by decide)) (g := (mkF m 20 #[.val (.ref a1)] [(.ref b41), (.ref b41), (.ref a1)])) rfl (by rw [hml]; rfl) (Steps.refl _) (a := b41) (argsL := []) (rest := [(.ref b41), (.ref a1)]) (lenOf pd_1_0 rfl) rfl (by show 2 * 0 + _ ≤ _; exact Nat.le_of_eq rfl) (hb hby d1_20) (fun _ _ => ⟨rfl, e41, (by decide : 2 + 0 ≤ _), (by decide : 6 + 0 ≤ _)⟩)
  dsimp only [Pt.U, Pt.locs, Pt.cells, Pt.slots] at X59 l59 y59 z59 st59 hQ59
  subst l59 y59 z59
  obtain ⟨rfl, N59q, Kq59, p59_0, p59_1, p59_2, p59_3⟩ := hQ59
  have N59 := Fr.app N27 N59q
  have f60 : Exa Z T59.heap a1 "com/example/coverbill/coverbill/charge/PriceItemChanges" := f42.keep Kq59
  have f61 : Fld Z T59.heap a1 "com/example/coverbill/coverbill/charge/PriceItemChanges" "created" "Ljava/util/List;" (.ref b2) := f43.keep Kq59 (ninS ne_a1_b41 nin0)
  have f62 : Fld Z T59.heap a1 "com/example/coverbill/coverbill/charge/PriceItemChanges" "updated" "Ljava/util/List;" .null := f44.keep Kq59 (ninS ne_a1_b41 nin0)
  have f63 : Fld Z T59.heap a1 "com/example/coverbill/coverbill/charge/PriceItemChanges" "lastDays" "Ljava/util/Map;" .null := f45.keep Kq59 (ninS ne_a1_b41 nin0)
  have f64 : Fld Z T59.heap a1 "com/example/coverbill/coverbill/charge/PriceItemChanges" "errors" "Ljava/util/List;" .null := f46.keep Kq59 (ninS ne_a1_b41 nin0)
  have f65 : Fld Z T59.heap a1 "com/example/coverbill/coverbill/charge/PriceItemChanges" "complete" "I" (.int (0 : Int32)) := f47.keep Kq59 (ninS ne_a1_b41 nin0)
  have f66 : Fld Z T59.heap a1 "com/example/coverbill/coverbill/charge/PriceItemChanges" "failed" "I" (.int (0 : Int32)) := f48.keep Kq59 (ninS ne_a1_b41 nin0)
  have f67 : Fld Z T59.heap a1 "com/example/coverbill/coverbill/charge/PriceItemChanges" "endDatesChanged" "I" (.int (0 : Int32)) := f49.keep Kq59 (ninS ne_a1_b41 nin0)
  have f68 : Fld Z T59.heap a1 "com/example/coverbill/coverbill/charge/PriceItemChanges" "canceled" "I" (.int (0 : Int32)) := f50.keep Kq59 (ninS ne_a1_b41 nin0)
  have f69 : Old Z n0 T59.heap := f51.keep Kq59 (allS (P := fun x => n0 ≤ x) g_b41 all0)
  have f70 : Exa Z T59.heap b2 "java/util/ArrayList" := f52.keep Kq59
  have f71 : Fld Z T59.heap b2 "java/util/ArrayList" "elementData" "[Ljava/lang/Object;" (.ref xd) := f53.keep Kq59 (ninS ne_b2_b41 nin0)
  have f72 : Fld Z T59.heap b2 "java/util/AbstractList" "modCount" "I" (.int (0 : Int32)) := f54.keep Kq59 (ninS ne_b2_b41 nin0)
  have f73 : Fld Z T59.heap b2 "java/util/ArrayList" "size" "I" (.int (0 : Int32)) := f55.keep Kq59 (ninS ne_b2_b41 nin0)
  have Z59 : n0 ≤ T59.heap.size := Nat.le_trans Z41 Kq59.1
  have K59 : Keep h0 T59.heap [a1] := K41.trans Kq59 (allS (P := fun x => x ∈ [a1] ∨ h0.size ≤ x) (Or.inr sz_b41) all0)
  refine own_tr st59 ?_
  show own_Go p e below K (T59.setTop (mkF m 23 #[.val (.ref a1)] [(.ref b41), (.ref a1)]))
  obtain ⟨T74, h74, X74, e74, W74, st74⟩ := putF X59 hx hZ hown (host := "") (Or.inl (hw _ (List.mem_of_getElem? (i := 35) rfl))) Via.refl rfl f62 f60 (Or.inr ⟨(hw _ (List.mem_of_getElem? (i := 36) rfl)), rfl, hnm⟩) (hw _ (List.mem_of_getElem? (i := 1) rfl)) (ty := (.object "java/util/List")) (by decide) rfl rfl (g := (mkF m 23 #[.val (.ref a1)] [(.ref b41), (.ref a1)])) rfl rfl (hb hby d1_23)
  have fw74 : Fld Z h74 a1 "com/example/coverbill/coverbill/charge/PriceItemChanges" "updated" "Ljava/util/List;" (.ref b41) := f62.same W74
  have f75 : Exa Z h74 a1 "com/example/coverbill/coverbill/charge/PriceItemChanges" := f60.wr W74
  have f76 : Fld Z h74 a1 "com/example/coverbill/coverbill/charge/PriceItemChanges" "created" "Ljava/util/List;" (.ref b2) := f61.other W74 (Or.inr (slot_ne (Or.inr (hw _ (List.mem_of_getElem? (i := 34) rfl))) (Or.inr (hw _ (List.mem_of_getElem? (i := 36) rfl))) (by decide) (t := (.object "java/util/List")) (t' := (.object "java/util/List")) (by decide) (by decide)))
  have f77 : Fld Z h74 a1 "com/example/coverbill/coverbill/charge/PriceItemChanges" "lastDays" "Ljava/util/Map;" .null := f63.other W74 (Or.inr (slot_ne (Or.inr (hw _ (List.mem_of_getElem? (i := 64) rfl))) (Or.inr (hw _ (List.mem_of_getElem? (i := 36) rfl))) (by decide) (t := (.object "java/util/Map")) (t' := (.object "java/util/List")) (by decide) (by decide)))
  have f78 : Fld Z h74 a1 "com/example/coverbill/coverbill/charge/PriceItemChanges" "errors" "Ljava/util/List;" .null := f64.other W74 (Or.inr (slot_ne (Or.inr (hw _ (List.mem_of_getElem? (i := 66) rfl))) (Or.inr (hw _ (List.mem_of_getElem? (i := 36) rfl))) (by decide) (t := (.object "java/util/List")) (t' := (.object "java/util/List")) (by decide) (by decide)))
  have f79 : Fld Z h74 a1 "com/example/coverbill/coverbill/charge/PriceItemChanges" "complete" "I" (.int (0 : Int32)) := f65.other W74 (Or.inr (slot_ne (Or.inl (hw _ (List.mem_of_getElem? (i := 120) rfl))) (Or.inr (hw _ (List.mem_of_getElem? (i := 36) rfl))) (by decide) (t := .int) (t' := (.object "java/util/List")) (by decide) (by decide)))
  have f80 : Fld Z h74 a1 "com/example/coverbill/coverbill/charge/PriceItemChanges" "failed" "I" (.int (0 : Int32)) := f66.other W74 (Or.inr (slot_ne (Or.inl (hw _ (List.mem_of_getElem? (i := 122) rfl))) (Or.inr (hw _ (List.mem_of_getElem? (i := 36) rfl))) (by decide) (t := .int) (t' := (.object "java/util/List")) (by decide) (by decide)))
  have f81 : Fld Z h74 a1 "com/example/coverbill/coverbill/charge/PriceItemChanges" "endDatesChanged" "I" (.int (0 : Int32)) := f67.other W74 (Or.inr (slot_ne (Or.inl (hw _ (List.mem_of_getElem? (i := 132) rfl))) (Or.inr (hw _ (List.mem_of_getElem? (i := 36) rfl))) (by decide) (t := .int) (t' := (.object "java/util/List")) (by decide) (by decide)))
  have f82 : Fld Z h74 a1 "com/example/coverbill/coverbill/charge/PriceItemChanges" "canceled" "I" (.int (0 : Int32)) := f68.other W74 (Or.inr (slot_ne (Or.inl (hw _ (List.mem_of_getElem? (i := 134) rfl))) (Or.inr (hw _ (List.mem_of_getElem? (i := 36) rfl))) (by decide) (t := .int) (t' := (.object "java/util/List")) (by decide) (by decide)))
  have f83 : Old Z n0 h74 := f69.wr W74 g_a1
  have f84 : Exa Z h74 b2 "java/util/ArrayList" := f70.wr W74
  have f85 : Fld Z h74 b2 "java/util/ArrayList" "elementData" "[Ljava/lang/Object;" (.ref xd) := f71.other W74 (Or.inl (Ne.symm ne_a1_b2))
  have f86 : Fld Z h74 b2 "java/util/AbstractList" "modCount" "I" (.int (0 : Int32)) := f72.other W74 (Or.inl (Ne.symm ne_a1_b2))
  have f87 : Fld Z h74 b2 "java/util/ArrayList" "size" "I" (.int (0 : Int32)) := f73.other W74 (Or.inl (Ne.symm ne_a1_b2))
  have f88 : Exa Z h74 b41 "java/util/ArrayList" := p59_0.wr W74
  have f89 : Fld Z h74 b41 "java/util/ArrayList" "elementData" "[Ljava/lang/Object;" (.ref xd) := p59_1.other W74 (Or.inl (Ne.symm ne_a1_b41))
  have f90 : Fld Z h74 b41 "java/util/AbstractList" "modCount" "I" (.int (0 : Int32)) := p59_2.other W74 (Or.inl (Ne.symm ne_a1_b41))
  have f91 : Fld Z h74 b41 "java/util/ArrayList" "size" "I" (.int (0 : Int32)) := p59_3.other W74 (Or.inl (Ne.symm ne_a1_b41))
  have N74 := Fr.snoc X74 N59 g_a1
  have Z74 : n0 ≤ h74.size := Nat.le_trans Z59 (Keep.of_wr W74).1
  have K74 : Keep h0 h74 [a1] := K59.wr W74 (Or.inl (List.mem_of_getElem? (i := 0) rfl))
  refine own_st st74 ?_
  show own_Go p e below K (T74.setTop (mkF m 26 #[.val (.ref a1)] []))
  refine own_st (fun t k => XS.aloadN X74.here hx rfl (hb hby d1_26) rfl rfl k) ?_
  show own_Go p e below K (T74.setTop (mkF m 27 #[.val (.ref a1)] [(.ref a1)]))
  obtain ⟨T92, h92, X92, e92, E92, A92, D92, -, st92⟩ := newO X74 hx hZ hown (hw _ (List.mem_of_getElem? (i := 37) rfl)) (hw _ (List.mem_of_getElem? (i := 38) rfl)) (hw _ (List.mem_of_getElem? (i := 39) rfl)) e74 (g := (mkF m 27 #[.val (.ref a1)] [(.ref a1)])) rfl (hb hby d1_27) (by decide) (by decide)
  obtain ⟨b92, g92⟩ : ∃ z, z = h74.size := ⟨_, rfl⟩
  rw [← g92] at A92 D92 st92
  have ne_a1_b92 : a1 ≠ b92 := Nat.ne_of_lt (Nat.lt_of_lt_of_le f75.lt (Nat.le_of_eq g92.symm))
  have ne_b2_b92 : b2 ≠ b92 := Nat.ne_of_lt (Nat.lt_of_lt_of_le f84.lt (Nat.le_of_eq g92.symm))
  have ne_b41_b92 : b41 ≠ b92 := Nat.ne_of_lt (Nat.lt_of_lt_of_le f88.lt (Nat.le_of_eq g92.symm))
  have g_b92 : n0 ≤ b92 := Nat.le_trans Z74 (Nat.le_of_eq g92.symm)
  have sz_b92 : h0.size ≤ b92 := Nat.le_trans K74.1 (Nat.le_of_eq g92.symm)
  have f93 : Exa Z h92 a1 "com/example/coverbill/coverbill/charge/PriceItemChanges" := f75.ext E92
  have f94 : Fld Z h92 a1 "com/example/coverbill/coverbill/charge/PriceItemChanges" "created" "Ljava/util/List;" (.ref b2) := f76.ext E92
  have f95 : Fld Z h92 a1 "com/example/coverbill/coverbill/charge/PriceItemChanges" "updated" "Ljava/util/List;" (.ref b41) := fw74.ext E92
  have f96 : Fld Z h92 a1 "com/example/coverbill/coverbill/charge/PriceItemChanges" "lastDays" "Ljava/util/Map;" .null := f77.ext E92
  have f97 : Fld Z h92 a1 "com/example/coverbill/coverbill/charge/PriceItemChanges" "errors" "Ljava/util/List;" .null := f78.ext E92
  have f98 : Fld Z h92 a1 "com/example/coverbill/coverbill/charge/PriceItemChanges" "complete" "I" (.int (0 : Int32)) := f79.ext E92
  have f99 : Fld Z h92 a1 "com/example/coverbill/coverbill/charge/PriceItemChanges" "failed" "I" (.int (0 : Int32)) := f80.ext E92
  have f100 : Fld Z h92 a1 "com/example/coverbill/coverbill/charge/PriceItemChanges" "endDatesChanged" "I" (.int (0 : Int32)) := f81.ext E92
  have f101 : Fld Z h92 a1 "com/example/coverbill/coverbill/charge/PriceItemChanges" "canceled" "I" (.int (0 : Int32)) := f82.ext E92
  have f102 : Old Z n0 h92 := f83.ext E92
  have f103 : Exa Z h92 b2 "java/util/ArrayList" := f84.ext E92
  have f104 : Fld Z h92 b2 "java/util/ArrayList" "elementData" "[Ljava/lang/Object;" (.ref xd) := f85.ext E92
  have f105 : Fld Z h92 b2 "java/util/AbstractList" "modCount" "I" (.int (0 : Int32)) := f86.ext E92
  have f106 : Fld Z h92 b2 "java/util/ArrayList" "size" "I" (.int (0 : Int32)) := f87.ext E92
  have f107 : Exa Z h92 b41 "java/util/ArrayList" := f88.ext E92
  have f108 : Fld Z h92 b41 "java/util/ArrayList" "elementData" "[Ljava/lang/Object;" (.ref xd) := f89.ext E92
  have f109 : Fld Z h92 b41 "java/util/AbstractList" "modCount" "I" (.int (0 : Int32)) := f90.ext E92
  have f110 : Fld Z h92 b41 "java/util/ArrayList" "size" "I" (.int (0 : Int32)) := f91.ext E92
  have f111 : Fld Z h92 b92 "java/util/HashMap" "loadFactor" "F" (defaultValue .float) := D92 (Or.inr (hw _ (List.mem_of_getElem? (i := 58) rfl))) (ty := .float) (by decide)
  have f112 : Fld Z h92 b92 "java/util/LinkedHashMap" "putMode" "I" (.int (0 : Int32)) := D92 (Or.inl (hw _ (List.mem_of_getElem? (i := 60) rfl))) (ty := .int) (by decide)
  have f113 : Fld Z h92 b92 "java/util/LinkedHashMap" "accessOrder" "Z" (.int (0 : Int32)) := D92 (Or.inr (hw _ (List.mem_of_getElem? (i := 62) rfl))) (ty := .boolean) (by decide)
  have Z92 : n0 ≤ h92.size := Nat.le_trans Z74 E92.1
  have K92 : Keep h0 h92 [a1] := K74.ext E92
  refine own_st st92 ?_
  show own_Go p e below K (T92.setTop (mkF m 30 #[.val (.ref a1)] [(.ref b92), (.ref a1)]))
  refine own_st (fun t k => XS.dup X92.here hx rfl (hb hby d1_30) rfl rfl k) ?_
  show own_Go p e below K (T92.setTop (mkF m 31 #[.val (.ref a1)] [(.ref b92), (.ref b92), (.ref a1)]))
  obtain ⟨_, _, ⟨T114, L114, k114, n114⟩, -, X114, ⟨Lc114, hQ114, l114, y114, z114⟩, st114⟩ := X92.specialBack hx (y := (⟨"java/util/LinkedHashMap", "<init>", "()V"⟩ : MethodName)) rfl hown (mvT hZ (hw _ (List.mem_of_getElem? (i := 40) rfl))) (mvT hZ (hw _ (List.mem_of_getElem? (i := 41) rfl))) (mvT hZ (hw _ (List.mem_of_getElem? (i := 42) rfl))) (by decide) (backOf (W := 2) (rm6 l Z a0 hw [] b92 h92 n0 Z92 g_b92 A92 f111 f112 f113) hZ (hw _ (List.mem_of_getElem? (i := 42) rfl)) (hw _ (List.mem_of_getElem? (i := 39) rfl)) (by decide) (by decide)) (g := (mkF m 31 #[.val (.ref a1)] [(.ref b92), (.ref b92), (.ref a1)])) rfl (by rw [hml]; rfl) (Steps.refl _) (a := b92) (argsL := []) (rest := [(.ref b92), (.ref a1)]) (lenOf pd_1_0 rfl) rfl (by show 2 * 0 + _ ≤ _; exact Nat.le_of_eq rfl) (hb hby d1_31) (fun _ _ => ⟨rfl, e92, (by decide : 3 + 0 ≤ _), (by decide : 18 + 0 ≤ _)⟩)
  dsimp only [Pt.U, Pt.locs, Pt.cells, Pt.slots] at X114 l114 y114 z114 st114 hQ114
  subst l114 y114 z114
  obtain ⟨rfl, N114q, Kq114, p114_0⟩ := hQ114
  have N114 := Fr.app N74 N114q
  have f115 : Exa Z T114.heap a1 "com/example/coverbill/coverbill/charge/PriceItemChanges" := f93.keep Kq114
  have f116 : Fld Z T114.heap a1 "com/example/coverbill/coverbill/charge/PriceItemChanges" "created" "Ljava/util/List;" (.ref b2) := f94.keep Kq114 (ninS ne_a1_b92 nin0)
  have f117 : Fld Z T114.heap a1 "com/example/coverbill/coverbill/charge/PriceItemChanges" "updated" "Ljava/util/List;" (.ref b41) := f95.keep Kq114 (ninS ne_a1_b92 nin0)
  have f118 : Fld Z T114.heap a1 "com/example/coverbill/coverbill/charge/PriceItemChanges" "lastDays" "Ljava/util/Map;" .null := f96.keep Kq114 (ninS ne_a1_b92 nin0)
  have f119 : Fld Z T114.heap a1 "com/example/coverbill/coverbill/charge/PriceItemChanges" "errors" "Ljava/util/List;" .null := f97.keep Kq114 (ninS ne_a1_b92 nin0)
  have f120 : Fld Z T114.heap a1 "com/example/coverbill/coverbill/charge/PriceItemChanges" "complete" "I" (.int (0 : Int32)) := f98.keep Kq114 (ninS ne_a1_b92 nin0)
  have f121 : Fld Z T114.heap a1 "com/example/coverbill/coverbill/charge/PriceItemChanges" "failed" "I" (.int (0 : Int32)) := f99.keep Kq114 (ninS ne_a1_b92 nin0)
  have f122 : Fld Z T114.heap a1 "com/example/coverbill/coverbill/charge/PriceItemChanges" "endDatesChanged" "I" (.int (0 : Int32)) := f100.keep Kq114 (ninS ne_a1_b92 nin0)
  have f123 : Fld Z T114.heap a1 "com/example/coverbill/coverbill/charge/PriceItemChanges" "canceled" "I" (.int (0 : Int32)) := f101.keep Kq114 (ninS ne_a1_b92 nin0)
  have f124 : Old Z n0 T114.heap := f102.keep Kq114 (allS (P := fun x => n0 ≤ x) g_b92 all0)
  have f125 : Exa Z T114.heap b2 "java/util/ArrayList" := f103.keep Kq114
  have f126 : Fld Z T114.heap b2 "java/util/ArrayList" "elementData" "[Ljava/lang/Object;" (.ref xd) := f104.keep Kq114 (ninS ne_b2_b92 nin0)
  have f127 : Fld Z T114.heap b2 "java/util/AbstractList" "modCount" "I" (.int (0 : Int32)) := f105.keep Kq114 (ninS ne_b2_b92 nin0)
  have f128 : Fld Z T114.heap b2 "java/util/ArrayList" "size" "I" (.int (0 : Int32)) := f106.keep Kq114 (ninS ne_b2_b92 nin0)
  have f129 : Exa Z T114.heap b41 "java/util/ArrayList" := f107.keep Kq114
  have f130 : Fld Z T114.heap b41 "java/util/ArrayList" "elementData" "[Ljava/lang/Object;" (.ref xd) := f108.keep Kq114 (ninS ne_b41_b92 nin0)
  have f131 : Fld Z T114.heap b41 "java/util/AbstractList" "modCount" "I" (.int (0 : Int32)) := f109.keep Kq114 (ninS ne_b41_b92 nin0)
  have f132 : Fld Z T114.heap b41 "java/util/ArrayList" "size" "I" (.int (0 : Int32)) := f110.keep Kq114 (ninS ne_b41_b92 nin0)
  have Z114 : n0 ≤ T114.heap.size := Nat.le_trans Z92 Kq114.1
  have K114 : Keep h0 T114.heap [a1] := K92.trans Kq114 (allS (P := fun x => x ∈ [a1] ∨ h0.size ≤ x) (Or.inr sz_b92) all0)
  refine own_tr st114 ?_
  show own_Go p e below K (T114.setTop (mkF m 34 #[.val (.ref a1)] [(.ref b92), (.ref a1)]))
  obtain ⟨T133, h133, X133, e133, W133, st133⟩ := putF X114 hx hZ hown (host := "") (Or.inl (hw _ (List.mem_of_getElem? (i := 63) rfl))) Via.refl rfl f118 f115 (Or.inr ⟨(hw _ (List.mem_of_getElem? (i := 64) rfl)), rfl, hnm⟩) (hw _ (List.mem_of_getElem? (i := 1) rfl)) (ty := (.object "java/util/Map")) (by decide) rfl rfl (g := (mkF m 34 #[.val (.ref a1)] [(.ref b92), (.ref a1)])) rfl rfl (hb hby d1_34)
  have fw133 : Fld Z h133 a1 "com/example/coverbill/coverbill/charge/PriceItemChanges" "lastDays" "Ljava/util/Map;" (.ref b92) := f118.same W133
  have f134 : Exa Z h133 a1 "com/example/coverbill/coverbill/charge/PriceItemChanges" := f115.wr W133
  have f135 : Fld Z h133 a1 "com/example/coverbill/coverbill/charge/PriceItemChanges" "created" "Ljava/util/List;" (.ref b2) := f116.other W133 (Or.inr (slot_ne (Or.inr (hw _ (List.mem_of_getElem? (i := 34) rfl))) (Or.inr (hw _ (List.mem_of_getElem? (i := 64) rfl))) (by decide) (t := (.object "java/util/List")) (t' := (.object "java/util/Map")) (by decide) (by decide)))
  have f136 : Fld Z h133 a1 "com/example/coverbill/coverbill/charge/PriceItemChanges" "updated" "Ljava/util/List;" (.ref b41) := f117.other W133 (Or.inr (slot_ne (Or.inr (hw _ (List.mem_of_getElem? (i := 36) rfl))) (Or.inr (hw _ (List.mem_of_getElem? (i := 64) rfl))) (by decide) (t := (.object "java/util/List")) (t' := (.object "java/util/Map")) (by decide) (by decide)))
  have f137 : Fld Z h133 a1 "com/example/coverbill/coverbill/charge/PriceItemChanges" "errors" "Ljava/util/List;" .null := f119.other W133 (Or.inr (slot_ne (Or.inr (hw _ (List.mem_of_getElem? (i := 66) rfl))) (Or.inr (hw _ (List.mem_of_getElem? (i := 64) rfl))) (by decide) (t := (.object "java/util/List")) (t' := (.object "java/util/Map")) (by decide) (by decide)))
  have f138 : Fld Z h133 a1 "com/example/coverbill/coverbill/charge/PriceItemChanges" "complete" "I" (.int (0 : Int32)) := f120.other W133 (Or.inr (slot_ne (Or.inl (hw _ (List.mem_of_getElem? (i := 120) rfl))) (Or.inr (hw _ (List.mem_of_getElem? (i := 64) rfl))) (by decide) (t := .int) (t' := (.object "java/util/Map")) (by decide) (by decide)))
  have f139 : Fld Z h133 a1 "com/example/coverbill/coverbill/charge/PriceItemChanges" "failed" "I" (.int (0 : Int32)) := f121.other W133 (Or.inr (slot_ne (Or.inl (hw _ (List.mem_of_getElem? (i := 122) rfl))) (Or.inr (hw _ (List.mem_of_getElem? (i := 64) rfl))) (by decide) (t := .int) (t' := (.object "java/util/Map")) (by decide) (by decide)))
  have f140 : Fld Z h133 a1 "com/example/coverbill/coverbill/charge/PriceItemChanges" "endDatesChanged" "I" (.int (0 : Int32)) := f122.other W133 (Or.inr (slot_ne (Or.inl (hw _ (List.mem_of_getElem? (i := 132) rfl))) (Or.inr (hw _ (List.mem_of_getElem? (i := 64) rfl))) (by decide) (t := .int) (t' := (.object "java/util/Map")) (by decide) (by decide)))
  have f141 : Fld Z h133 a1 "com/example/coverbill/coverbill/charge/PriceItemChanges" "canceled" "I" (.int (0 : Int32)) := f123.other W133 (Or.inr (slot_ne (Or.inl (hw _ (List.mem_of_getElem? (i := 134) rfl))) (Or.inr (hw _ (List.mem_of_getElem? (i := 64) rfl))) (by decide) (t := .int) (t' := (.object "java/util/Map")) (by decide) (by decide)))
  have f142 : Old Z n0 h133 := f124.wr W133 g_a1
  have f143 : Exa Z h133 b2 "java/util/ArrayList" := f125.wr W133
  have f144 : Fld Z h133 b2 "java/util/ArrayList" "elementData" "[Ljava/lang/Object;" (.ref xd) := f126.other W133 (Or.inl (Ne.symm ne_a1_b2))
  have f145 : Fld Z h133 b2 "java/util/AbstractList" "modCount" "I" (.int (0 : Int32)) := f127.other W133 (Or.inl (Ne.symm ne_a1_b2))
  have f146 : Fld Z h133 b2 "java/util/ArrayList" "size" "I" (.int (0 : Int32)) := f128.other W133 (Or.inl (Ne.symm ne_a1_b2))
  have f147 : Exa Z h133 b41 "java/util/ArrayList" := f129.wr W133
  have f148 : Fld Z h133 b41 "java/util/ArrayList" "elementData" "[Ljava/lang/Object;" (.ref xd) := f130.other W133 (Or.inl (Ne.symm ne_a1_b41))
  have f149 : Fld Z h133 b41 "java/util/AbstractList" "modCount" "I" (.int (0 : Int32)) := f131.other W133 (Or.inl (Ne.symm ne_a1_b41))
  have f150 : Fld Z h133 b41 "java/util/ArrayList" "size" "I" (.int (0 : Int32)) := f132.other W133 (Or.inl (Ne.symm ne_a1_b41))
  have f151 : Exa Z h133 b92 "java/util/LinkedHashMap" := p114_0.wr W133
  have N133 := Fr.snoc X133 N114 g_a1
  have Z133 : n0 ≤ h133.size := Nat.le_trans Z114 (Keep.of_wr W133).1
  have K133 : Keep h0 h133 [a1] := K114.wr W133 (Or.inl (List.mem_of_getElem? (i := 0) rfl))
  refine own_st st133 ?_
  show own_Go p e below K (T133.setTop (mkF m 37 #[.val (.ref a1)] []))
  refine own_st (fun t k => XS.aloadN X133.here hx rfl (hb hby d1_37) rfl rfl k) ?_
  show own_Go p e below K (T133.setTop (mkF m 38 #[.val (.ref a1)] [(.ref a1)]))
  obtain ⟨T152, h152, X152, e152, E152, A152, D152, -, st152⟩ := newO X133 hx hZ hown (hw _ (List.mem_of_getElem? (i := 9) rfl)) (hw _ (List.mem_of_getElem? (i := 10) rfl)) (hw _ (List.mem_of_getElem? (i := 11) rfl)) e133 (g := (mkF m 38 #[.val (.ref a1)] [(.ref a1)])) rfl (hb hby d1_38) (by decide) (by decide)
  obtain ⟨b152, g152⟩ : ∃ z, z = h133.size := ⟨_, rfl⟩
  rw [← g152] at A152 D152 st152
  have ne_a1_b152 : a1 ≠ b152 := Nat.ne_of_lt (Nat.lt_of_lt_of_le f134.lt (Nat.le_of_eq g152.symm))
  have ne_b2_b152 : b2 ≠ b152 := Nat.ne_of_lt (Nat.lt_of_lt_of_le f143.lt (Nat.le_of_eq g152.symm))
  have ne_b41_b152 : b41 ≠ b152 := Nat.ne_of_lt (Nat.lt_of_lt_of_le f147.lt (Nat.le_of_eq g152.symm))
  have ne_b92_b152 : b92 ≠ b152 := Nat.ne_of_lt (Nat.lt_of_lt_of_le f151.lt (Nat.le_of_eq g152.symm))
  have g_b152 : n0 ≤ b152 := Nat.le_trans Z133 (Nat.le_of_eq g152.symm)
  have sz_b152 : h0.size ≤ b152 := Nat.le_trans K133.1 (Nat.le_of_eq g152.symm)
  have f153 : Exa Z h152 a1 "com/example/coverbill/coverbill/charge/PriceItemChanges" := f134.ext E152
  have f154 : Fld Z h152 a1 "com/example/coverbill/coverbill/charge/PriceItemChanges" "created" "Ljava/util/List;" (.ref b2) := f135.ext E152
  have f155 : Fld Z h152 a1 "com/example/coverbill/coverbill/charge/PriceItemChanges" "updated" "Ljava/util/List;" (.ref b41) := f136.ext E152
  have f156 : Fld Z h152 a1 "com/example/coverbill/coverbill/charge/PriceItemChanges" "lastDays" "Ljava/util/Map;" (.ref b92) := fw133.ext E152
  have f157 : Fld Z h152 a1 "com/example/coverbill/coverbill/charge/PriceItemChanges" "errors" "Ljava/util/List;" .null := f137.ext E152
  have f158 : Fld Z h152 a1 "com/example/coverbill/coverbill/charge/PriceItemChanges" "complete" "I" (.int (0 : Int32)) := f138.ext E152
  have f159 : Fld Z h152 a1 "com/example/coverbill/coverbill/charge/PriceItemChanges" "failed" "I" (.int (0 : Int32)) := f139.ext E152
  have f160 : Fld Z h152 a1 "com/example/coverbill/coverbill/charge/PriceItemChanges" "endDatesChanged" "I" (.int (0 : Int32)) := f140.ext E152
  have f161 : Fld Z h152 a1 "com/example/coverbill/coverbill/charge/PriceItemChanges" "canceled" "I" (.int (0 : Int32)) := f141.ext E152
  have f162 : Old Z n0 h152 := f142.ext E152
  have f163 : Exa Z h152 b2 "java/util/ArrayList" := f143.ext E152
  have f164 : Fld Z h152 b2 "java/util/ArrayList" "elementData" "[Ljava/lang/Object;" (.ref xd) := f144.ext E152
  have f165 : Fld Z h152 b2 "java/util/AbstractList" "modCount" "I" (.int (0 : Int32)) := f145.ext E152
  have f166 : Fld Z h152 b2 "java/util/ArrayList" "size" "I" (.int (0 : Int32)) := f146.ext E152
  have f167 : Exa Z h152 b41 "java/util/ArrayList" := f147.ext E152
  have f168 : Fld Z h152 b41 "java/util/ArrayList" "elementData" "[Ljava/lang/Object;" (.ref xd) := f148.ext E152
  have f169 : Fld Z h152 b41 "java/util/AbstractList" "modCount" "I" (.int (0 : Int32)) := f149.ext E152
  have f170 : Fld Z h152 b41 "java/util/ArrayList" "size" "I" (.int (0 : Int32)) := f150.ext E152
  have f171 : Exa Z h152 b92 "java/util/LinkedHashMap" := f151.ext E152
  have f172 : Fld Z h152 b152 "java/util/AbstractList" "modCount" "I" (.int (0 : Int32)) := D152 (Or.inl (hw _ (List.mem_of_getElem? (i := 29) rfl))) (ty := .int) (by decide)
  have f173 : Fld Z h152 b152 "java/util/ArrayList" "elementData" "[Ljava/lang/Object;" .null := D152 (Or.inl (hw _ (List.mem_of_getElem? (i := 32) rfl))) (ty := (.array (.object "java/lang/Object"))) (by decide)
  have f174 : Fld Z h152 b152 "java/util/ArrayList" "size" "I" (.int (0 : Int32)) := D152 (Or.inl (hw _ (List.mem_of_getElem? (i := 89) rfl))) (ty := .int) (by decide)
  have Z152 : n0 ≤ h152.size := Nat.le_trans Z133 E152.1
  have K152 : Keep h0 h152 [a1] := K133.ext E152
  refine own_st st152 ?_
  show own_Go p e below K (T152.setTop (mkF m 41 #[.val (.ref a1)] [(.ref b152), (.ref a1)]))
  refine own_st (fun t k => XS.dup X152.here hx rfl (hb hby d1_41) rfl rfl k) ?_
  show own_Go p e below K (T152.setTop (mkF m 42 #[.val (.ref a1)] [(.ref b152), (.ref b152), (.ref a1)]))
  obtain ⟨_, _, ⟨T175, L175, k175, n175⟩, -, X175, ⟨Lc175, hQ175, l175, y175, z175⟩, st175⟩ := X152.specialBack hx (y := (⟨"java/util/ArrayList", "<init>", "()V"⟩ : MethodName)) rfl hown (mvT hZ (hw _ (List.mem_of_getElem? (i := 12) rfl))) (mvT hZ (hw _ (List.mem_of_getElem? (i := 13) rfl))) (mvT hZ (hw _ (List.mem_of_getElem? (i := 14) rfl))) (by decide) (backOf (W := 2) (rm3 l Z a0 hw [] b152 (xd) h152 n0 Z152 g_b152 A152 f173 f172 f174 f162 SD) hZ (hw _ (List.mem_of_getElem? (i := 14) rfl)) (hw _ (List.mem_of_getElem? (i := 11) rfl)) (by decide) (by decide)) (g := (mkF m 42 #[.val (.ref a1)] [(.ref b152), (.ref b152), (.ref a1)])) rfl (by rw [hml]; rfl) (Steps.refl _) (a := b152) (argsL := []) (rest := [(.ref b152), (.ref a1)]) (lenOf pd_1_0 rfl) rfl (by show 2 * 0 + _ ≤ _; exact Nat.le_of_eq rfl) (hb hby d1_42) (fun _ _ => ⟨rfl, e152, (by decide : 4 + 0 ≤ _), (by decide : 21 + 0 ≤ _)⟩)
  dsimp only [Pt.U, Pt.locs, Pt.cells, Pt.slots] at X175 l175 y175 z175 st175 hQ175
  subst l175 y175 z175
  obtain ⟨rfl, N175q, Kq175, p175_0, p175_1, p175_2, p175_3⟩ := hQ175
  have N175 := Fr.app N133 N175q
  have f176 : Exa Z T175.heap a1 "com/example/coverbill/coverbill/charge/PriceItemChanges" := f153.keep Kq175
  have f177 : Fld Z T175.heap a1 "com/example/coverbill/coverbill/charge/PriceItemChanges" "created" "Ljava/util/List;" (.ref b2) := f154.keep Kq175 (ninS ne_a1_b152 nin0)
  have f178 : Fld Z T175.heap a1 "com/example/coverbill/coverbill/charge/PriceItemChanges" "updated" "Ljava/util/List;" (.ref b41) := f155.keep Kq175 (ninS ne_a1_b152 nin0)
  have f179 : Fld Z T175.heap a1 "com/example/coverbill/coverbill/charge/PriceItemChanges" "lastDays" "Ljava/util/Map;" (.ref b92) := f156.keep Kq175 (ninS ne_a1_b152 nin0)
  have f180 : Fld Z T175.heap a1 "com/example/coverbill/coverbill/charge/PriceItemChanges" "errors" "Ljava/util/List;" .null := f157.keep Kq175 (ninS ne_a1_b152 nin0)
  have f181 : Fld Z T175.heap a1 "com/example/coverbill/coverbill/charge/PriceItemChanges" "complete" "I" (.int (0 : Int32)) := f158.keep Kq175 (ninS ne_a1_b152 nin0)
  have f182 : Fld Z T175.heap a1 "com/example/coverbill/coverbill/charge/PriceItemChanges" "failed" "I" (.int (0 : Int32)) := f159.keep Kq175 (ninS ne_a1_b152 nin0)
  have f183 : Fld Z T175.heap a1 "com/example/coverbill/coverbill/charge/PriceItemChanges" "endDatesChanged" "I" (.int (0 : Int32)) := f160.keep Kq175 (ninS ne_a1_b152 nin0)
  have f184 : Fld Z T175.heap a1 "com/example/coverbill/coverbill/charge/PriceItemChanges" "canceled" "I" (.int (0 : Int32)) := f161.keep Kq175 (ninS ne_a1_b152 nin0)
  have f185 : Old Z n0 T175.heap := f162.keep Kq175 (allS (P := fun x => n0 ≤ x) g_b152 all0)
  have f186 : Exa Z T175.heap b2 "java/util/ArrayList" := f163.keep Kq175
  have f187 : Fld Z T175.heap b2 "java/util/ArrayList" "elementData" "[Ljava/lang/Object;" (.ref xd) := f164.keep Kq175 (ninS ne_b2_b152 nin0)
  have f188 : Fld Z T175.heap b2 "java/util/AbstractList" "modCount" "I" (.int (0 : Int32)) := f165.keep Kq175 (ninS ne_b2_b152 nin0)
  have f189 : Fld Z T175.heap b2 "java/util/ArrayList" "size" "I" (.int (0 : Int32)) := f166.keep Kq175 (ninS ne_b2_b152 nin0)
  have f190 : Exa Z T175.heap b41 "java/util/ArrayList" := f167.keep Kq175
  have f191 : Fld Z T175.heap b41 "java/util/ArrayList" "elementData" "[Ljava/lang/Object;" (.ref xd) := f168.keep Kq175 (ninS ne_b41_b152 nin0)
  have f192 : Fld Z T175.heap b41 "java/util/AbstractList" "modCount" "I" (.int (0 : Int32)) := f169.keep Kq175 (ninS ne_b41_b152 nin0)
  have f193 : Fld Z T175.heap b41 "java/util/ArrayList" "size" "I" (.int (0 : Int32)) := f170.keep Kq175 (ninS ne_b41_b152 nin0)
  have f194 : Exa Z T175.heap b92 "java/util/LinkedHashMap" := f171.keep Kq175
  have Z175 : n0 ≤ T175.heap.size := Nat.le_trans Z152 Kq175.1
  have K175 : Keep h0 T175.heap [a1] := K152.trans Kq175 (allS (P := fun x => x ∈ [a1] ∨ h0.size ≤ x) (Or.inr sz_b152) all0)
  refine own_tr st175 ?_
  show own_Go p e below K (T175.setTop (mkF m 45 #[.val (.ref a1)] [(.ref b152), (.ref a1)]))
  obtain ⟨T195, h195, X195, e195, W195, st195⟩ := putF X175 hx hZ hown (host := "") (Or.inl (hw _ (List.mem_of_getElem? (i := 65) rfl))) Via.refl rfl f180 f176 (Or.inr ⟨(hw _ (List.mem_of_getElem? (i := 66) rfl)), rfl, hnm⟩) (hw _ (List.mem_of_getElem? (i := 1) rfl)) (ty := (.object "java/util/List")) (by decide) rfl rfl (g := (mkF m 45 #[.val (.ref a1)] [(.ref b152), (.ref a1)])) rfl rfl (hb hby d1_45)
  have fw195 : Fld Z h195 a1 "com/example/coverbill/coverbill/charge/PriceItemChanges" "errors" "Ljava/util/List;" (.ref b152) := f180.same W195
  have f196 : Exa Z h195 a1 "com/example/coverbill/coverbill/charge/PriceItemChanges" := f176.wr W195
  have f197 : Fld Z h195 a1 "com/example/coverbill/coverbill/charge/PriceItemChanges" "created" "Ljava/util/List;" (.ref b2) := f177.other W195 (Or.inr (slot_ne (Or.inr (hw _ (List.mem_of_getElem? (i := 34) rfl))) (Or.inr (hw _ (List.mem_of_getElem? (i := 66) rfl))) (by decide) (t := (.object "java/util/List")) (t' := (.object "java/util/List")) (by decide) (by decide)))
  have f198 : Fld Z h195 a1 "com/example/coverbill/coverbill/charge/PriceItemChanges" "updated" "Ljava/util/List;" (.ref b41) := f178.other W195 (Or.inr (slot_ne (Or.inr (hw _ (List.mem_of_getElem? (i := 36) rfl))) (Or.inr (hw _ (List.mem_of_getElem? (i := 66) rfl))) (by decide) (t := (.object "java/util/List")) (t' := (.object "java/util/List")) (by decide) (by decide)))
  have f199 : Fld Z h195 a1 "com/example/coverbill/coverbill/charge/PriceItemChanges" "lastDays" "Ljava/util/Map;" (.ref b92) := f179.other W195 (Or.inr (slot_ne (Or.inr (hw _ (List.mem_of_getElem? (i := 64) rfl))) (Or.inr (hw _ (List.mem_of_getElem? (i := 66) rfl))) (by decide) (t := (.object "java/util/Map")) (t' := (.object "java/util/List")) (by decide) (by decide)))
  have f200 : Fld Z h195 a1 "com/example/coverbill/coverbill/charge/PriceItemChanges" "complete" "I" (.int (0 : Int32)) := f181.other W195 (Or.inr (slot_ne (Or.inl (hw _ (List.mem_of_getElem? (i := 120) rfl))) (Or.inr (hw _ (List.mem_of_getElem? (i := 66) rfl))) (by decide) (t := .int) (t' := (.object "java/util/List")) (by decide) (by decide)))
  have f201 : Fld Z h195 a1 "com/example/coverbill/coverbill/charge/PriceItemChanges" "failed" "I" (.int (0 : Int32)) := f182.other W195 (Or.inr (slot_ne (Or.inl (hw _ (List.mem_of_getElem? (i := 122) rfl))) (Or.inr (hw _ (List.mem_of_getElem? (i := 66) rfl))) (by decide) (t := .int) (t' := (.object "java/util/List")) (by decide) (by decide)))
  have f202 : Fld Z h195 a1 "com/example/coverbill/coverbill/charge/PriceItemChanges" "endDatesChanged" "I" (.int (0 : Int32)) := f183.other W195 (Or.inr (slot_ne (Or.inl (hw _ (List.mem_of_getElem? (i := 132) rfl))) (Or.inr (hw _ (List.mem_of_getElem? (i := 66) rfl))) (by decide) (t := .int) (t' := (.object "java/util/List")) (by decide) (by decide)))
  have f203 : Fld Z h195 a1 "com/example/coverbill/coverbill/charge/PriceItemChanges" "canceled" "I" (.int (0 : Int32)) := f184.other W195 (Or.inr (slot_ne (Or.inl (hw _ (List.mem_of_getElem? (i := 134) rfl))) (Or.inr (hw _ (List.mem_of_getElem? (i := 66) rfl))) (by decide) (t := .int) (t' := (.object "java/util/List")) (by decide) (by decide)))
  have f204 : Old Z n0 h195 := f185.wr W195 g_a1
  have f205 : Exa Z h195 b2 "java/util/ArrayList" := f186.wr W195
  have f206 : Fld Z h195 b2 "java/util/ArrayList" "elementData" "[Ljava/lang/Object;" (.ref xd) := f187.other W195 (Or.inl (Ne.symm ne_a1_b2))
  have f207 : Fld Z h195 b2 "java/util/AbstractList" "modCount" "I" (.int (0 : Int32)) := f188.other W195 (Or.inl (Ne.symm ne_a1_b2))
  have f208 : Fld Z h195 b2 "java/util/ArrayList" "size" "I" (.int (0 : Int32)) := f189.other W195 (Or.inl (Ne.symm ne_a1_b2))
  have f209 : Exa Z h195 b41 "java/util/ArrayList" := f190.wr W195
  have f210 : Fld Z h195 b41 "java/util/ArrayList" "elementData" "[Ljava/lang/Object;" (.ref xd) := f191.other W195 (Or.inl (Ne.symm ne_a1_b41))
  have f211 : Fld Z h195 b41 "java/util/AbstractList" "modCount" "I" (.int (0 : Int32)) := f192.other W195 (Or.inl (Ne.symm ne_a1_b41))
  have f212 : Fld Z h195 b41 "java/util/ArrayList" "size" "I" (.int (0 : Int32)) := f193.other W195 (Or.inl (Ne.symm ne_a1_b41))
  have f213 : Exa Z h195 b92 "java/util/LinkedHashMap" := f194.wr W195
  have f214 : Exa Z h195 b152 "java/util/ArrayList" := p175_0.wr W195
  have f215 : Fld Z h195 b152 "java/util/ArrayList" "elementData" "[Ljava/lang/Object;" (.ref xd) := p175_1.other W195 (Or.inl (Ne.symm ne_a1_b152))
  have f216 : Fld Z h195 b152 "java/util/AbstractList" "modCount" "I" (.int (0 : Int32)) := p175_2.other W195 (Or.inl (Ne.symm ne_a1_b152))
  have f217 : Fld Z h195 b152 "java/util/ArrayList" "size" "I" (.int (0 : Int32)) := p175_3.other W195 (Or.inl (Ne.symm ne_a1_b152))
  have N195 := Fr.snoc X195 N175 g_a1
  have Z195 : n0 ≤ h195.size := Nat.le_trans Z175 (Keep.of_wr W195).1
  have K195 : Keep h0 h195 [a1] := K175.wr W195 (Or.inl (List.mem_of_getElem? (i := 0) rfl))
  refine own_st st195 ?_
  show own_Go p e below K (T195.setTop (mkF m 48 #[.val (.ref a1)] []))
  obtain ⟨fs, hr, hrun, hended, hW, hsame⟩ := X195.leave (v := none) (fun _ => rfl)
  refine ⟨_, X195.returnOut hx Bd.returns (hb hby d1_48) hr, fin _ _ _ hrun hended ?_ ⟨⟨_, rfl⟩, hW, hsame.mono (by decide) (by decide)⟩⟩
  show Q1 Z a1 xd h0 n0 _ T195.heap _
  rw [e195]
  exact ⟨b2, b41, rfl, N195, K195, f196, f197, f198, f200, f201, f202, f203, f205, f206, f207, f208, f209, f210, f211, f212, sz_b2, sz_b41, ne_b2_b41⟩
theorem d9_0 : decode prog_38_method_2_code 0 = .ok (.aload_n 0, 1) := by decide +kernel
theorem d9_1 : decode prog_38_method_2_code 1 = .ok (.getfield 10, 3) := by decide +kernel
theorem d9_4 : decode prog_38_method_2_code 4 = .ok (.areturn, 1) := by decide +kernel
theorem pn_9 : plainName "com/example/coverbill/coverbill/charge/PriceItemChanges" = true := by first | (simp [plainName, overriddenIn]; done) | decide +kernel
theorem ef_9 (m : MethodId) (x0 : Addr) : entryFrame m #[(.ref x0)] 1 = mkF m 0 #[.val (.ref x0)] [] := by first | (simp [entryFrame, mkF, argsToLocals, Value.category]; done) | rfl
def Q9 (Z : State) (a1 : Addr) (u : Addr) (h0 : Heap) (n0 : Nat) (v : Option Value) (h : Heap) (L : List Loc) : Prop := ∃ (r : Addr), v = some (.ref r) ∧ (r = u) ∧ Fr n0 L ∧ h = h0
set_option maxRecDepth 65536 in
set_option maxHeartbeats 40000000 in
theorem rm9 (l : Launch) (Z : State) (a0 : Array Value) (hw : ∀ d ∈ tables_1, d.before a0 Z = true) (ws : List Jvm.Cond) (a1 : Addr) (u : Addr) (h0 : Heap) (n0 : Nat) (Z0 : n0 ≤ h0.size) (P0 : Fld Z h0 a1 "com/example/coverbill/coverbill/charge/PriceItemChanges" "created" "Ljava/util/List;" (.ref u)) :
    MetFree l (⟨"com/example/coverbill/coverbill/charge/PriceItemChanges", "created", "()Ljava/util/List;"⟩ : MethodName) (head1 (Jvm.Cond.code (⟨"com/example/coverbill/coverbill/charge/PriceItemChanges", "created", "()Ljava/util/List;"⟩ : MethodName) prog_38_method_2_code 1 (some (.object "java/util/List")) :: ws) ({ frames := 0, cells := 0, slots := 0, locals := 0 } : Room)) (fun a U => a = #[(.ref a1)] ∧ Z.Warmed39 U.vm ∧ U.heap = h0) (fun _ _ _ _ _ => True) (fun _ U o U' => ∃ v L, o = .returned v ∧ Q9 Z a1 u h0 n0 v U'.heap L ∧ FrameEnd U o U' L ({ frames := 0, cells := 0, slots := 0, locals := 0 } : Room).cells ({ frames := 0, cells := 0, slots := 0, locals := 0 } : Room).slots) := by
  refine MetFree.of_bodySF (plainFor_of_name pn_9) hisR ?_
  intro p e s m args below meth c s₁ Bd hml0 hP hK
  obtain ⟨rfl, hZ, hh⟩ := hP
  have hx := Bd.exec
  have hby := Bd.bytes
  have hml : c.maxLocals = 1 := hml0
  have hown : s.vm.findClass "com/example/coverbill/coverbill/charge/PriceItemChanges" = some m.cls := findClass_of_methodNamed Bd.named
  have hnm := (name_of_methodNamed Bd.named Bd.method).1
  have X0 : Stand p l e ({ frames := 0, cells := 0, slots := 0, locals := 0 } : Room) s m #[(.ref a1)] below meth c s₁ [] 0 0 := Stand.of_body Bd
  have e0 : s₁.heap = h0 := by rw [← hh, Bd.state]; rfl
  have N0 := Fr.nil n0
  suffices G0 : ∀ K : State → Prop, (∀ (n : State) (v : Option Value) (L : List Loc), n.status = .running → Ended n below (.returned v) → Q9 Z a1 u h0 n0 v n.heap L → FrameEnd s (.returned v) n L ({ frames := 0, cells := 0, slots := 0, locals := 0 } : Room).cells ({ frames := 0, cells := 0, slots := 0, locals := 0 } : Room).slots → K n) → own_Go p e below K (s₁.setTop (mkF m 0 #[.val (.ref a1)] [])) by
    obtain ⟨t, st, o, a, b, v, L, e1, q, fe⟩ := G0 (fun n => ∃ o, n.status = .running ∧ Ended n below o ∧ ∃ v L, o = .returned v ∧ Q9 Z a1 u h0 n0 v n.heap L ∧ FrameEnd s o n L ({ frames := 0, cells := 0, slots := 0, locals := 0 } : Room).cells ({ frames := 0, cells := 0, slots := 0, locals := 0 } : Room).slots) (fun n v L a b q f => ⟨_, a, b, v, L, rfl, q, f⟩)
    exact ⟨t, o, castTop (ef_9 m a1) st, a, b, v, L, e1, q, fe⟩
  intro K fin
  show own_Go p e below K (s₁.setTop (mkF m 0 #[.val (.ref a1)] []))
  refine own_st (fun t k => XS.aloadN X0.here hx rfl (hb hby d9_0) rfl rfl k) ?_
  show own_Go p e below K (s₁.setTop (mkF m 1 #[.val (.ref a1)] [(.ref a1)]))
  obtain ⟨T1, X1, e1, st1⟩ := getF X0 hx hZ hown (host := "") (Or.inl (hw _ (List.mem_of_getElem? (i := 33) rfl))) Via.refl e0 P0 (g := (mkF m 1 #[.val (.ref a1)] [(.ref a1)])) rfl rfl (hb hby d9_1)
  refine own_st st1 ?_
  show own_Go p e below K (T1.setTop (mkF m 4 #[.val (.ref a1)] [(.ref u)]))
  obtain ⟨fs, hr, hrun, hended, hW, hsame⟩ := X1.leave (v := some (.ref u)) (fun h => by rw [Bd.returns] at h; cases h)
  refine ⟨_, X1.areturnOut hx rfl Bd.returns rfl (hb hby d9_4) hr, fin _ _ _ hrun hended ?_ ⟨⟨_, rfl⟩, hW, hsame.mono (by decide) (by decide)⟩⟩
  show Q9 Z a1 u h0 n0 _ T1.heap _
  rw [e1]
  exact ⟨_, rfl, rfl, N0, rfl⟩
theorem d10_0 : decode prog_38_method_3_code 0 = .ok (.aload_n 0, 1) := by decide +kernel
theorem d10_1 : decode prog_38_method_3_code 1 = .ok (.getfield 16, 3) := by decide +kernel
theorem d10_4 : decode prog_38_method_3_code 4 = .ok (.areturn, 1) := by decide +kernel
theorem pn_10 : plainName "com/example/coverbill/coverbill/charge/PriceItemChanges" = true := by first | (simp [plainName, overriddenIn]; done) | decide +kernel
theorem ef_10 (m : MethodId) (x0 : Addr) : entryFrame m #[(.ref x0)] 1 = mkF m 0 #[.val (.ref x0)] [] := by first | (simp [entryFrame, mkF, argsToLocals, Value.category]; done) | rfl
def Q10 (Z : State) (a1 : Addr) (u : Addr) (h0 : Heap) (n0 : Nat) (v : Option Value) (h : Heap) (L : List Loc) : Prop := ∃ (r : Addr), v = some (.ref r) ∧ (r = u) ∧ Fr n0 L ∧ h = h0
set_option maxRecDepth 65536 in
set_option maxHeartbeats 40000000 in
theorem rm10 (l : Launch) (Z : State) (a0 : Array Value) (hw : ∀ d ∈ tables_1, d.before a0 Z = true) (ws : List Jvm.Cond) (a1 : Addr) (u : Addr) (h0 : Heap) (n0 : Nat) (Z0 : n0 ≤ h0.size) (P0 : Fld Z h0 a1 "com/example/coverbill/coverbill/charge/PriceItemChanges" "updated" "Ljava/util/List;" (.ref u)) :
    MetFree l (⟨"com/example/coverbill/coverbill/charge/PriceItemChanges", "updated", "()Ljava/util/List;"⟩ : MethodName) (head1 (Jvm.Cond.code (⟨"com/example/coverbill/coverbill/charge/PriceItemChanges", "updated", "()Ljava/util/List;"⟩ : MethodName) prog_38_method_3_code 1 (some (.object "java/util/List")) :: ws) ({ frames := 0, cells := 0, slots := 0, locals := 0 } : Room)) (fun a U => a = #[(.ref a1)] ∧ Z.Warmed39 U.vm ∧ U.heap = h0) (fun _ _ _ _ _ => True) (fun _ U o U' => ∃ v L, o = .returned v ∧ Q10 Z a1 u h0 n0 v U'.heap L ∧ FrameEnd U o U' L ({ frames := 0, cells := 0, slots := 0, locals := 0 } : Room).cells ({ frames := 0, cells := 0, slots := 0, locals := 0 } : Room).slots) := by
  refine MetFree.of_bodySF (plainFor_of_name pn_10) hisR ?_
  intro p e s m args below meth c s₁ Bd hml0 hP hK
  obtain ⟨rfl, hZ, hh⟩ := hP
  have hx := Bd.exec
  have hby := Bd.bytes
  have hml : c.maxLocals = 1 := hml0
  have hown : s.vm.findClass "com/example/coverbill/coverbill/charge/PriceItemChanges" = some m.cls := findClass_of_methodNamed Bd.named
  have hnm := (name_of_methodNamed Bd.named Bd.method).1
  have X0 : Stand p l e ({ frames := 0, cells := 0, slots := 0, locals := 0 } : Room) s m #[(.ref a1)] below meth c s₁ [] 0 0 := Stand.of_body Bd
  have e0 : s₁.heap = h0 := by rw [← hh, Bd.state]; rfl
  have N0 := Fr.nil n0
  suffices G0 : ∀ K : State → Prop, (∀ (n : State) (v : Option Value) (L : List Loc), n.status = .running → Ended n below (.returned v) → Q10 Z a1 u h0 n0 v n.heap L → FrameEnd s (.returned v) n L ({ frames := 0, cells := 0, slots := 0, locals := 0 } : Room).cells ({ frames := 0, cells := 0, slots := 0, locals := 0 } : Room).slots → K n) → own_Go p e below K (s₁.setTop (mkF m 0 #[.val (.ref a1)] [])) by
    obtain ⟨t, st, o, a, b, v, L, e1, q, fe⟩ := G0 (fun n => ∃ o, n.status = .running ∧ Ended n below o ∧ ∃ v L, o = .returned v ∧ Q10 Z a1 u h0 n0 v n.heap L ∧ FrameEnd s o n L ({ frames := 0, cells := 0, slots := 0, locals := 0 } : Room).cells ({ frames := 0, cells := 0, slots := 0, locals := 0 } : Room).slots) (fun n v L a b q f => ⟨_, a, b, v, L, rfl, q, f⟩)
    exact ⟨t, o, castTop (ef_10 m a1) st, a, b, v, L, e1, q, fe⟩
  intro K fin
  show own_Go p e below K (s₁.setTop (mkF m 0 #[.val (.ref a1)] []))
  refine own_st (fun t k => XS.aloadN X0.here hx rfl (hb hby d10_0) rfl rfl k) ?_
  show own_Go p e below K (s₁.setTop (mkF m 1 #[.val (.ref a1)] [(.ref a1)]))
  obtain ⟨T1, X1, e1, st1⟩ := getF X0 hx hZ hown (host := "") (Or.inl (hw _ (List.mem_of_getElem? (i := 35) rfl))) Via.refl e0 P0 (g := (mkF m 1 #[.val (.ref a1)] [(.ref a1)])) rfl rfl (hb hby d10_1)
  refine own_st st1 ?_
  show own_Go p e below K (T1.setTop (mkF m 4 #[.val (.ref a1)] [(.ref u)]))
  obtain ⟨fs, hr, hrun, hended, hW, hsame⟩ := X1.leave (v := some (.ref u)) (fun h => by rw [Bd.returns] at h; cases h)
  refine ⟨_, X1.areturnOut hx rfl Bd.returns rfl (hb hby d10_4) hr, fin _ _ _ hrun hended ?_ ⟨⟨_, rfl⟩, hW, hsame.mono (by decide) (by decide)⟩⟩
  show Q10 Z a1 u h0 n0 _ T1.heap _
  rw [e1]
  exact ⟨_, rfl, rfl, N0, rfl⟩
theorem d15_0 : decode jdk_29_method_65_code 0 = .ok (.iload_n 0, 1) := by decide +kernel
theorem d15_1 : decode jdk_29_method_65_code 1 = .ok (.iload_n 1, 1) := by decide +kernel
theorem d15_2 : decode jdk_29_method_65_code 2 = .ok (.if_icmp .lt 7, 3) := by decide +kernel
theorem d15_5 : decode jdk_29_method_65_code 5 = .ok (.iload_n 0, 1) := by decide +kernel
theorem d15_6 : decode jdk_29_method_65_code 6 = .ok (.goto 4, 3) := by decide +kernel
theorem d15_9 : decode jdk_29_method_65_code 9 = .ok (.iload_n 1, 1) := by decide +kernel
theorem d15_10 : decode jdk_29_method_65_code 10 = .ok (.ireturn, 1) := by decide +kernel
theorem ef_15 (m : MethodId) (x0 : Int32) (x1 : Int32) : entryFrame m #[(.int x0), (.int x1)] 2 = mkF m 0 #[.val (.int x0), .val (.int x1)] [] := by first | (simp [entryFrame, mkF, argsToLocals, Value.category]; done) | rfl
def Q15 (Z : State) (p1 : Int32) (p2 : Int32) (h0 : Heap) (n0 : Nat) (v : Option Value) (h : Heap) (L : List Loc) : Prop := ∃ (r : Int32), v = some (.int r) ∧ (r = if p1 < p2 then p2 else p1) ∧ Fr n0 L ∧ h = h0
set_option maxRecDepth 65536 in
set_option maxHeartbeats 40000000 in
theorem rm15 (l : Launch) (Z : State) (a0 : Array Value) (hw : ∀ d ∈ tables_1, d.before a0 Z = true) (ws : List Jvm.Cond) (p1 : Int32) (p2 : Int32) (h0 : Heap) (n0 : Nat) (Z0 : n0 ≤ h0.size)  :
    MetFree l (⟨"java/lang/Math", "max", "(II)I"⟩ : MethodName) (head1 (Jvm.Cond.code (⟨"java/lang/Math", "max", "(II)I"⟩ : MethodName) jdk_29_method_65_code 2 (some .int) :: ws) ({ frames := 0, cells := 0, slots := 0, locals := 0 } : Room)) (fun a U => a = #[(.int p1), (.int p2)] ∧ Z.Warmed39 U.vm ∧ U.heap = h0) (fun _ _ _ _ _ => True) (fun _ U o U' => ∃ v L, o = .returned v ∧ Q15 Z p1 p2 h0 n0 v U'.heap L ∧ FrameEnd U o U' L ({ frames := 0, cells := 0, slots := 0, locals := 0 } : Room).cells ({ frames := 0, cells := 0, slots := 0, locals := 0 } : Room).slots) := by
  refine MetFree.of_bodySF (Jvm.Free.JP.mathPlain rfl (by decide +kernel)) hisR ?_
  intro p e s m args below meth c s₁ Bd hml0 hP hK
  obtain ⟨rfl, hZ, hh⟩ := hP
  have hx := Bd.exec
  have hby := Bd.bytes
  have hml : c.maxLocals = 2 := hml0
  have hown : s.vm.findClass "java/lang/Math" = some m.cls := findClass_of_methodNamed Bd.named
  have hnm := (name_of_methodNamed Bd.named Bd.method).1
  have X0 : Stand p l e ({ frames := 0, cells := 0, slots := 0, locals := 0 } : Room) s m #[(.int p1), (.int p2)] below meth c s₁ [] 0 0 := Stand.of_body Bd
  have e0 : s₁.heap = h0 := by rw [← hh, Bd.state]; rfl
  have N0 := Fr.nil n0
  suffices G0 : ∀ K : State → Prop, (∀ (n : State) (v : Option Value) (L : List Loc), n.status = .running → Ended n below (.returned v) → Q15 Z p1 p2 h0 n0 v n.heap L → FrameEnd s (.returned v) n L ({ frames := 0, cells := 0, slots := 0, locals := 0 } : Room).cells ({ frames := 0, cells := 0, slots := 0, locals := 0 } : Room).slots → K n) → own_Go p e below K (s₁.setTop (mkF m 0 #[.val (.int p1), .val (.int p2)] [])) by
    obtain ⟨t, st, o, a, b, v, L, e1, q, fe⟩ := G0 (fun n => ∃ o, n.status = .running ∧ Ended n below o ∧ ∃ v L, o = .returned v ∧ Q15 Z p1 p2 h0 n0 v n.heap L ∧ FrameEnd s o n L ({ frames := 0, cells := 0, slots := 0, locals := 0 } : Room).cells ({ frames := 0, cells := 0, slots := 0, locals := 0 } : Room).slots) (fun n v L a b q f => ⟨_, a, b, v, L, rfl, q, f⟩)
    exact ⟨t, o, castTop (ef_15 m p1 p2) st, a, b, v, L, e1, q, fe⟩
  intro K fin
  show own_Go p e below K (s₁.setTop (mkF m 0 #[.val (.int p1), .val (.int p2)] []))
  refine own_st (fun t k => XS.iloadN X0.here hx rfl (hb hby d15_0) rfl k) ?_
  show own_Go p e below K (s₁.setTop (mkF m 1 #[.val (.int p1), .val (.int p2)] [(.int p1)]))
  refine own_st (fun t k => XS.iloadN X0.here hx rfl (hb hby d15_1) rfl k) ?_
  show own_Go p e below K (s₁.setTop (mkF m 2 #[.val (.int p1), .val (.int p2)] [(.int p2), (.int p1)]))
  by_cases hc2 : p1 < p2
  · refine own_st (fun t k => XS.icmpYes X0.here hx rfl (pc0 := 2) (pc' := 9) rfl (hb hby d15_2) rfl (tlt hc2).1 (by decide) (by decide) k) ?_
    show own_Go p e below K (s₁.setTop (mkF m 9 #[.val (.int p1), .val (.int p2)] []))
    refine own_st (fun t k => XS.iloadN X0.here hx rfl (hb hby d15_9) rfl k) ?_
    show own_Go p e below K (s₁.setTop (mkF m 10 #[.val (.int p1), .val (.int p2)] [(.int p2)]))
    obtain ⟨fs, hr, hrun, hended, hW, hsame⟩ := X0.leave (v := some (.int p2)) (fun h => by rw [Bd.returns] at h; cases h)
    refine ⟨_, retI X0 hx Bd.returns (hb hby d15_10) hr, fin _ _ _ hrun hended ?_ ⟨⟨_, rfl⟩, hW, hsame.mono (by decide) (by decide)⟩⟩
    show Q15 Z p1 p2 h0 n0 _ s₁.heap _
    rw [e0]
    exact ⟨_, rfl, (if_pos hc2).symm, N0, rfl⟩
  refine own_st (fun t k => XS.icmpNo X0.here hx rfl (hb hby d15_2) rfl (flt hc2).1 k) ?_
  show own_Go p e below K (s₁.setTop (mkF m 5 #[.val (.int p1), .val (.int p2)] []))
  refine own_st (fun t k => XS.iloadN X0.here hx rfl (hb hby d15_5) rfl k) ?_
  show own_Go p e below K (s₁.setTop (mkF m 6 #[.val (.int p1), .val (.int p2)] [(.int p1)]))
  refine own_st (fun t k => XS.goto X0.here hx rfl (pc0 := 6) (pc' := 10) rfl (hb hby d15_6) (by decide) (by decide) k) ?_
  show own_Go p e below K (s₁.setTop (mkF m 10 #[.val (.int p1), .val (.int p2)] [(.int p1)]))
  obtain ⟨fs, hr, hrun, hended, hW, hsame⟩ := X0.leave (v := some (.int p1)) (fun h => by rw [Bd.returns] at h; cases h)
  refine ⟨_, retI X0 hx Bd.returns (hb hby d15_10) hr, fin _ _ _ hrun hended ?_ ⟨⟨_, rfl⟩, hW, hsame.mono (by decide) (by decide)⟩⟩
  show Q15 Z p1 p2 h0 n0 _ s₁.heap _
  rw [e0]
  exact ⟨_, rfl, (if_neg hc2).symm, N0, rfl⟩
theorem d14_0 : decode jdk_38_method_6_code 0 = .ok (.aload_n 0, 1) := by decide +kernel
theorem d14_1 : decode jdk_38_method_6_code 1 = .ok (.getfield 9, 3) := by decide +kernel
theorem d14_4 : decode jdk_38_method_6_code 4 = .ok (.arraylength, 1) := by decide +kernel
theorem d14_5 : decode jdk_38_method_6_code 5 = .ok (.istore_n 2, 1) := by decide +kernel
theorem d14_6 : decode jdk_38_method_6_code 6 = .ok (.iload_n 2, 1) := by decide +kernel
theorem d14_7 : decode jdk_38_method_6_code 7 = .ok (.ifCond .gt 13, 3) := by decide +kernel
theorem d14_10 : decode jdk_38_method_6_code 10 = .ok (.aload_n 0, 1) := by decide +kernel
theorem d14_11 : decode jdk_38_method_6_code 11 = .ok (.getfield 9, 3) := by decide +kernel
theorem d14_14 : decode jdk_38_method_6_code 14 = .ok (.getstatic 39, 3) := by decide +kernel
theorem d14_17 : decode jdk_38_method_6_code 17 = .ok (.if_acmp .eq 28, 3) := by decide +kernel
theorem d14_45 : decode jdk_38_method_6_code 45 = .ok (.aload_n 0, 1) := by decide +kernel
theorem d14_46 : decode jdk_38_method_6_code 46 = .ok (.bipush 10, 2) := by decide +kernel
theorem d14_48 : decode jdk_38_method_6_code 48 = .ok (.iload_n 1, 1) := by decide +kernel
theorem d14_49 : decode jdk_38_method_6_code 49 = .ok (.invokestatic 79, 3) := by decide +kernel
theorem d14_52 : decode jdk_38_method_6_code 52 = .ok (.anewarray 7, 3) := by decide +kernel
theorem d14_55 : decode jdk_38_method_6_code 55 = .ok (.dup_x1, 1) := by decide +kernel
theorem d14_56 : decode jdk_38_method_6_code 56 = .ok (.putfield 9, 3) := by decide +kernel
theorem d14_59 : decode jdk_38_method_6_code 59 = .ok (.areturn, 1) := by decide +kernel
theorem pn_14 : plainName "java/util/ArrayList" = true := by first | (simp [plainName, overriddenIn]; done) | decide +kernel
theorem pd_14_6 : parseMethodDescriptor "(II)I" = some ⟨[.int, .int], some .int⟩ := by decide +kernel
theorem ef_14 (m : MethodId) (x0 : Addr) (x1 : Int32) : entryFrame m #[(.ref x0), (.int x1)] 4 = mkF m 0 #[.val (.ref x0), .val (.int x1), .unset, .unset] [] := by first | (simp [entryFrame, mkF, argsToLocals, Value.category]; done) | rfl
def Q14 (Z : State) (a1 : Addr) (xd : Addr) (xk : ClassId) (mc : Int32) (h0 : Heap) (n0 : Nat) (v : Option Value) (h : Heap) (L : List Loc) : Prop := ∃ (r : Addr) (yk : ClassId), v = some (.ref r) ∧ (True) ∧ h0.size ≤ r ∧ Fr n0 L ∧ Keep h0 h [a1] ∧ (Exa Z h a1 "java/util/ArrayList") ∧ (Fld Z h a1 "java/util/ArrayList" "elementData" "[Ljava/lang/Object;" (.ref r)) ∧ (Fld Z h a1 "java/util/AbstractList" "modCount" "I" (.int mc)) ∧ (Fld Z h a1 "java/util/ArrayList" "size" "I" (.int (0 : Int32))) ∧ (Arv Z h r yk (.object "java/lang/Object") (10 : Int32) [.null, .null, .null, .null, .null, .null, .null, .null, .null, .null] .null)
set_option maxRecDepth 65536 in
set_option maxHeartbeats 40000000 in
theorem rm14 (l : Launch) (Z : State) (a0 : Array Value) (hw : ∀ d ∈ tables_1, d.before a0 Z = true) (ws : List Jvm.Cond) (a1 : Addr) (xd : Addr) (xk : ClassId) (mc : Int32) (h0 : Heap) (n0 : Nat) (Z0 : n0 ≤ h0.size) (g_a1 : n0 ≤ a1) (ne_a1_xd : a1 ≠ xd) (P0 : Exa Z h0 a1 "java/util/ArrayList") (P1 : Fld Z h0 a1 "java/util/ArrayList" "elementData" "[Ljava/lang/Object;" (.ref xd)) (P2 : Fld Z h0 a1 "java/util/AbstractList" "modCount" "I" (.int mc)) (P3 : Fld Z h0 a1 "java/util/ArrayList" "size" "I" (.int (0 : Int32))) (P4 : Arv Z h0 xd xk (.object "java/lang/Object") (0 : Int32) [] .null) (P5 : Old Z n0 h0) (SD : Sta Z Z.heap "java/util/ArrayList" "DEFAULTCAPACITY_EMPTY_ELEMENTDATA" "[Ljava/lang/Object;" (.ref xd)) :
    MetFree l (⟨"java/util/ArrayList", "grow", "(I)[Ljava/lang/Object;"⟩ : MethodName) (head1 (Jvm.Cond.code (⟨"java/util/ArrayList", "grow", "(I)[Ljava/lang/Object;"⟩ : MethodName) jdk_38_method_6_code 4 (some (.array (.object "java/lang/Object"))) :: ws) ({ frames := 1, cells := 1, slots := 10, locals := 14 } : Room)) (fun a U => a = #[(.ref a1), (.int (1 : Int32))] ∧ Z.Warmed39 U.vm ∧ U.heap = h0) (fun _ _ _ _ _ => True) (fun _ U o U' => ∃ v L, o = .returned v ∧ Q14 Z a1 xd xk mc h0 n0 v U'.heap L ∧ FrameEnd U o U' L ({ frames := 1, cells := 1, slots := 10, locals := 14 } : Room).cells ({ frames := 1, cells := 1, slots := 10, locals := 14 } : Room).slots) := by
  refine MetFree.of_bodySF (plainFor_of_name pn_14) hisR ?_
  intro p e s m args below meth c s₁ Bd hml0 hP hK
  obtain ⟨rfl, hZ, hh⟩ := hP
  have hx := Bd.exec
  have hby := Bd.bytes
  have hml : c.maxLocals = 4 := hml0
  have hown : s.vm.findClass "java/util/ArrayList" = some m.cls := findClass_of_methodNamed Bd.named
  have hnm := (name_of_methodNamed Bd.named Bd.method).1
  have X0 : Stand p l e ({ frames := 1, cells := 1, slots := 10, locals := 14 } : Room) s m #[(.ref a1), (.int (1 : Int32))] below meth c s₁ [] 0 0 := Stand.of_body Bd
  have e0 : s₁.heap = h0 := by rw [← hh, Bd.state]; rfl
  have N0 := Fr.nil n0
  suffices G0 : ∀ K : State → Prop, (∀ (n : State) (v : Option Value) (L : List Loc), n.status = .running → Ended n below (.returned v) → Q14 Z a1 xd xk mc h0 n0 v n.heap L → FrameEnd s (.returned v) n L ({ frames := 1, cells := 1, slots := 10, locals := 14 } : Room).cells ({ frames := 1, cells := 1, slots := 10, locals := 14 } : Room).slots → K n) → own_Go p e below K (s₁.setTop (mkF m 0 #[.val (.ref a1), .val (.int (1 : Int32)), .unset, .unset] [])) by
    obtain ⟨t, st, o, a, b, v, L, e1, q, fe⟩ := G0 (fun n => ∃ o, n.status = .running ∧ Ended n below o ∧ ∃ v L, o = .returned v ∧ Q14 Z a1 xd xk mc h0 n0 v n.heap L ∧ FrameEnd s o n L ({ frames := 1, cells := 1, slots := 10, locals := 14 } : Room).cells ({ frames := 1, cells := 1, slots := 10, locals := 14 } : Room).slots) (fun n v L a b q f => ⟨_, a, b, v, L, rfl, q, f⟩)
    exact ⟨t, o, castTop (ef_14 m a1 (1 : Int32)) st, a, b, v, L, e1, q, fe⟩
  intro K fin
  show own_Go p e below K (s₁.setTop (mkF m 0 #[.val (.ref a1), .val (.int (1 : Int32)), .unset, .unset] []))
  refine own_st (fun t k => XS.aloadN X0.here hx rfl (hb hby d14_0) rfl rfl k) ?_
  show own_Go p e below K (s₁.setTop (mkF m 1 #[.val (.ref a1), .val (.int (1 : Int32)), .unset, .unset] [(.ref a1)]))
  obtain ⟨T1, X1, e1, st1⟩ := getF X0 hx hZ hown (host := "") (Or.inl (hw _ (List.mem_of_getElem? (i := 31) rfl))) Via.refl e0 P1 (g := (mkF m 1 #[.val (.ref a1), .val (.int (1 : Int32)), .unset, .unset] [(.ref a1)])) rfl rfl (hb hby d14_1)
  refine own_st st1 ?_
  show own_Go p e below K (T1.setTop (mkF m 4 #[.val (.ref a1), .val (.int (1 : Int32)), .unset, .unset] [(.ref xd)]))
  obtain ⟨cl2, Ar2, -, Sa2, Ma2, -, -⟩ := id P4
  refine own_st (X1.arraylength hx (own_hat e1 Ar2.1) (State.isArrayOf_alike hZ.alike Ar2.2.1) (g := (mkF m 4 #[.val (.ref a1), .val (.int (1 : Int32)), .unset, .unset] [(.ref xd)])) rfl rfl (hb hby d14_4)) ?_
  rw [len_of Sa2 Ma2]
  show own_Go p e below K (T1.setTop (mkF m 5 #[.val (.ref a1), .val (.int (1 : Int32)), .unset, .unset] [(.int (0 : Int32))]))
  refine own_st (fun t k => XS.istoreN X1.here hx rfl (hb hby d14_5) rfl (l' := #[.val (.ref a1), .val (.int (1 : Int32)), .val (.int (0 : Int32)), .unset]) rfl k) ?_
  show own_Go p e below K (T1.setTop (mkF m 6 #[.val (.ref a1), .val (.int (1 : Int32)), .val (.int (0 : Int32)), .unset] []))
  refine own_st (fun t k => XS.iloadN X1.here hx rfl (hb hby d14_6) rfl k) ?_
  show own_Go p e below K (T1.setTop (mkF m 7 #[.val (.ref a1), .val (.int (1 : Int32)), .val (.int (0 : Int32)), .unset] [(.int (0 : Int32))]))
  refine own_st (fun t k => XS.ifNo X1.here hx rfl (hb hby d14_7) rfl ((if0 _ _).trans (flt (by decide : ¬ ((0 : Int32) < (0 : Int32)))).2.2.1) k) ?_
  show own_Go p e below K (T1.setTop (mkF m 10 #[.val (.ref a1), .val (.int (1 : Int32)), .val (.int (0 : Int32)), .unset] []))
  refine own_st (fun t k => XS.aloadN X1.here hx rfl (hb hby d14_10) rfl rfl k) ?_
  show own_Go p e below K (T1.setTop (mkF m 11 #[.val (.ref a1), .val (.int (1 : Int32)), .val (.int (0 : Int32)), .unset] [(.ref a1)]))
  obtain ⟨T3, X3, e3, st3⟩ := getF X1 hx hZ hown (host := "") (Or.inl (hw _ (List.mem_of_getElem? (i := 31) rfl))) Via.refl e1 P1 (g := (mkF m 11 #[.val (.ref a1), .val (.int (1 : Int32)), .val (.int (0 : Int32)), .unset] [(.ref a1)])) rfl rfl (hb hby d14_11)
  refine own_st st3 ?_
  show own_Go p e below K (T3.setTop (mkF m 14 #[.val (.ref a1), .val (.int (1 : Int32)), .val (.int (0 : Int32)), .unset] [(.ref xd)]))
  obtain ⟨T4, X4, e4, st4⟩ := getS2 X3 hx hZ hown (host := "") (Or.inl (hw _ (List.mem_of_getElem? (i := 30) rfl))) Via.refl e3 (SD.ext P5.2) (g := (mkF m 14 #[.val (.ref a1), .val (.int (1 : Int32)), .val (.int (0 : Int32)), .unset] [(.ref xd)])) rfl (hb hby d14_14)
  refine own_st st4 ?_
  show own_Go p e below K (T4.setTop (mkF m 17 #[.val (.ref a1), .val (.int (1 : Int32)), .val (.int (0 : Int32)), .unset] [(.ref xd), (.ref xd)]))
  refine own_st (fun t k => Jvm.RoadKit.acmp (g := (mkF m 17 #[.val (.ref a1), .val (.int (1 : Int32)), .val (.int (0 : Int32)), .unset] [(.ref xd), (.ref xd)])) X4 hx rfl rfl rfl (pc0 := 17) (pc' := 45) (same := true) rfl (hb hby d14_17) rfl (decide_eq_true rfl) (by decide) (by decide) k) ?_
  show own_Go p e below K (T4.setTop (mkF m 45 #[.val (.ref a1), .val (.int (1 : Int32)), .val (.int (0 : Int32)), .unset] []))
  refine own_st (fun t k => XS.aloadN X4.here hx rfl (hb hby d14_45) rfl rfl k) ?_
  show own_Go p e below K (T4.setTop (mkF m 46 #[.val (.ref a1), .val (.int (1 : Int32)), .val (.int (0 : Int32)), .unset] [(.ref a1)]))
  refine own_st (fun t k => XS.bipush X4.here hx rfl (hb hby d14_46) k) ?_
  show own_Go p e below K (T4.setTop (mkF m 48 #[.val (.ref a1), .val (.int (1 : Int32)), .val (.int (0 : Int32)), .unset] [(.int (10 : Int32)), (.ref a1)]))
  refine own_st (fun t k => XS.iloadN X4.here hx rfl (hb hby d14_48) rfl k) ?_
  show own_Go p e below K (T4.setTop (mkF m 49 #[.val (.ref a1), .val (.int (1 : Int32)), .val (.int (0 : Int32)), .unset] [(.int (1 : Int32)), (.int (10 : Int32)), (.ref a1)]))
  obtain ⟨_, _, ⟨T5, L5, k5, n5⟩, -, X5, ⟨Lc5, hQ5, l5, y5, z5⟩, st5⟩ := Jvm.LawKit.callS X4 hx (y := (⟨"java/lang/Math", "max", "(II)I"⟩ : MethodName)) hown (mvT hZ (hw _ (List.mem_of_getElem? (i := 105) rfl))) (mvT hZ (hw _ (List.mem_of_getElem? (i := 106) rfl))) (mvT hZ (hw _ (List.mem_of_getElem? (i := 107) rfl))) (mvT hZ (hw _ (List.mem_of_getElem? (i := 108) rfl))) (by decide) (backOf (W := 1) (rm15 l Z a0 hw [] (10 : Int32) (1 : Int32) h0 n0 Z0) hZ (hw _ (List.mem_of_getElem? (i := 108) rfl)) (hw _ (List.mem_of_getElem? (i := 107) rfl)) (by decide) (by decide)) (g := (mkF m 49 #[.val (.ref a1), .val (.int (1 : Int32)), .val (.int (0 : Int32)), .unset] [(.int (1 : Int32)), (.int (10 : Int32)), (.ref a1)])) rfl (by rw [hml]; rfl) (argsL := [(.int (10 : Int32)), (.int (1 : Int32))]) (rest := [(.ref a1)]) (lenOf pd_14_6 rfl) rfl (by show 2 * 0 + _ ≤ _; exact Nat.le_of_eq rfl) (hb hby d14_49) (fun _ _ => ⟨rfl, e4, (by decide : 0 + 0 ≤ _), (by decide : 0 + 0 ≤ _)⟩)
  dsimp only [Pt.U, Pt.locs, Pt.cells, Pt.slots] at X5 l5 y5 z5 st5 hQ5
  subst l5 y5 z5
  obtain ⟨r5, rfl, hr5, N5q, e5⟩ := hQ5
  have N5 := Fr.app N0 N5q
  refine own_st st5 ?_
  show own_Go p e below K (T5.setTop (mkF m 52 #[.val (.ref a1), .val (.int (1 : Int32)), .val (.int (0 : Int32)), .unset] [(.int r5), (.ref a1)]))
  have hs := (hr5 : r5 = (10 : Int32))
  subst hs
  show own_Go p e below K (T5.setTop (mkF m 52 #[.val (.ref a1), .val (.int (1 : Int32)), .val (.int (0 : Int32)), .unset] [(.int (10 : Int32)), (.ref a1)]))
  obtain ⟨T6, h6, k6, X6, e6, E6, A6, O6, st6⟩ := newR X5 hx hZ hown (hw _ (List.mem_of_getElem? (i := 109) rfl)) (hw _ (List.mem_of_getElem? (i := 110) rfl)) e5 (g := (mkF m 52 #[.val (.ref a1), .val (.int (1 : Int32)), .val (.int (0 : Int32)), .unset] [(.int (10 : Int32)), (.ref a1)])) rfl (hb hby d14_52) rfl (by decide) (cap := 10) (by decide) (by decide) (by decide) (by decide)
  obtain ⟨b6, g6⟩ : ∃ z, z = h0.size := ⟨_, rfl⟩
  rw [← g6] at A6 st6
  have ne_a1_b6 : a1 ≠ b6 := Nat.ne_of_lt (Nat.lt_of_lt_of_le P0.lt (Nat.le_of_eq g6.symm))
  have ne_xd_b6 : xd ≠ b6 := Nat.ne_of_lt (Nat.lt_of_lt_of_le P4.lt (Nat.le_of_eq g6.symm))
  have g_b6 : n0 ≤ b6 := Nat.le_trans Z0 (Nat.le_of_eq g6.symm)
  have sz_b6 : h0.size ≤ b6 := Nat.le_trans (Keep.refl h0 [a1]).1 (Nat.le_of_eq g6.symm)
  have f7 : Exa Z h6 a1 "java/util/ArrayList" := P0.ext E6
  have f8 : Fld Z h6 a1 "java/util/ArrayList" "elementData" "[Ljava/lang/Object;" (.ref xd) := P1.ext E6
  have f9 : Fld Z h6 a1 "java/util/AbstractList" "modCount" "I" (.int mc) := P2.ext E6
  have f10 : Fld Z h6 a1 "java/util/ArrayList" "size" "I" (.int (0 : Int32)) := P3.ext E6
  have f11 : Arv Z h6 xd xk (.object "java/lang/Object") (0 : Int32) [] .null := P4.ext E6
  have f12 : Old Z n0 h6 := P5.ext E6
  have V6 : Arv Z h6 b6 k6 (.object "java/lang/Object") (10 : Int32) [.null, .null, .null, .null, .null, .null, .null, .null, .null, .null] .null := (Arv.new A6 (by decide)).pad (pad_rep [] .null 10)
  have Z6 : n0 ≤ h6.size := Nat.le_trans Z0 E6.1
  have K6 : Keep h0 h6 [a1] := (Keep.refl h0 [a1]).ext E6
  refine own_st st6 ?_
  show own_Go p e below K (T6.setTop (mkF m 55 #[.val (.ref a1), .val (.int (1 : Int32)), .val (.int (0 : Int32)), .unset] [(.ref b6), (.ref a1)]))
  refine own_st (fun t k => XS.dupX1 X6.here hx rfl (hb hby d14_55) rfl rfl rfl k) ?_
  show own_Go p e below K (T6.setTop (mkF m 56 #[.val (.ref a1), .val (.int (1 : Int32)), .val (.int (0 : Int32)), .unset] [(.ref b6), (.ref a1), (.ref b6)]))
  obtain ⟨T13, h13, X13, e13, W13, st13⟩ := putF X6 hx hZ hown (host := "") (Or.inl (hw _ (List.mem_of_getElem? (i := 31) rfl))) Via.refl e6 f8 f7 (Or.inl (hw _ (List.mem_of_getElem? (i := 32) rfl))) (hw _ (List.mem_of_getElem? (i := 10) rfl)) (ty := (.array (.object "java/lang/Object"))) (by decide) rfl rfl (g := (mkF m 56 #[.val (.ref a1), .val (.int (1 : Int32)), .val (.int (0 : Int32)), .unset] [(.ref b6), (.ref a1), (.ref b6)])) rfl rfl (hb hby d14_56)
  have fw13 : Fld Z h13 a1 "java/util/ArrayList" "elementData" "[Ljava/lang/Object;" (.ref b6) := f8.same W13
  have f14 : Exa Z h13 a1 "java/util/ArrayList" := f7.wr W13
  have f15 : Fld Z h13 a1 "java/util/AbstractList" "modCount" "I" (.int mc) := f9.other W13 (Or.inr (slot_ne (Or.inl (hw _ (List.mem_of_getElem? (i := 29) rfl))) (Or.inl (hw _ (List.mem_of_getElem? (i := 32) rfl))) (by decide) (t := .int) (t' := (.array (.object "java/lang/Object"))) (by decide) (by decide)))
  have f16 : Fld Z h13 a1 "java/util/ArrayList" "size" "I" (.int (0 : Int32)) := f10.other W13 (Or.inr (slot_ne (Or.inl (hw _ (List.mem_of_getElem? (i := 89) rfl))) (Or.inl (hw _ (List.mem_of_getElem? (i := 32) rfl))) (by decide) (t := .int) (t' := (.array (.object "java/lang/Object"))) (by decide) (by decide)))
  have f17 : Arv Z h13 xd xk (.object "java/lang/Object") (0 : Int32) [] .null := f11.other W13 (Ne.symm ne_a1_xd)
  have f18 : Old Z n0 h13 := f12.wr W13 g_a1
  have f19 : Arv Z h13 b6 k6 (.object "java/lang/Object") (10 : Int32) [.null, .null, .null, .null, .null, .null, .null, .null, .null, .null] .null := V6.other W13 (Ne.symm ne_a1_b6)
  have N13 := Fr.snoc X13 N5 g_a1
  have Z13 : n0 ≤ h13.size := Nat.le_trans Z6 (Keep.of_wr W13).1
  have K13 : Keep h0 h13 [a1] := K6.wr W13 (Or.inl (List.mem_of_getElem? (i := 0) rfl))
  refine own_st st13 ?_
  show own_Go p e below K (T13.setTop (mkF m 59 #[.val (.ref a1), .val (.int (1 : Int32)), .val (.int (0 : Int32)), .unset] [(.ref b6)]))
  obtain ⟨fs, hr, hrun, hended, hW, hsame⟩ := X13.leave (v := some (.ref b6)) (fun h => by rw [Bd.returns] at h; cases h)
  refine ⟨_, X13.areturnOut hx rfl Bd.returns rfl (hb hby d14_59) hr, fin _ _ _ hrun hended ?_ ⟨⟨_, rfl⟩, hW, hsame.mono (by decide) (by decide)⟩⟩
  show Q14 Z a1 xd xk mc h0 n0 _ T13.heap _
  rw [e13]
  exact ⟨_, k6, rfl, trivial, sz_b6, N13, K13, f14, fw13, f15, f16, f19⟩
theorem d13_0 : decode jdk_38_method_7_code 0 = .ok (.aload_n 0, 1) := by decide +kernel
theorem d13_1 : decode jdk_38_method_7_code 1 = .ok (.aload_n 0, 1) := by decide +kernel
theorem d13_2 : decode jdk_38_method_7_code 2 = .ok (.getfield 48, 3) := by decide +kernel
theorem d13_5 : decode jdk_38_method_7_code 5 = .ok (.iconst 1, 1) := by decide +kernel
theorem d13_6 : decode jdk_38_method_7_code 6 = .ok (.iadd, 1) := by decide +kernel
theorem d13_7 : decode jdk_38_method_7_code 7 = .ok (.invokevirtual 69, 3) := by decide +kernel
theorem d13_10 : decode jdk_38_method_7_code 10 = .ok (.areturn, 1) := by decide +kernel
theorem pn_13 : plainName "java/util/ArrayList" = true := by first | (simp [plainName, overriddenIn]; done) | decide +kernel
theorem pd_13_5 : parseMethodDescriptor "(I)[Ljava/lang/Object;" = some ⟨[.int], some (.array (.object "java/lang/Object"))⟩ := by decide +kernel
theorem ef_13 (m : MethodId) (x0 : Addr) : entryFrame m #[(.ref x0)] 1 = mkF m 0 #[.val (.ref x0)] [] := by first | (simp [entryFrame, mkF, argsToLocals, Value.category]; done) | rfl
def Q13 (Z : State) (a1 : Addr) (xd : Addr) (xk : ClassId) (mc : Int32) (h0 : Heap) (n0 : Nat) (v : Option Value) (h : Heap) (L : List Loc) : Prop := ∃ (r : Addr) (yk : ClassId), v = some (.ref r) ∧ (True) ∧ h0.size ≤ r ∧ Fr n0 L ∧ Keep h0 h [a1] ∧ (Exa Z h a1 "java/util/ArrayList") ∧ (Fld Z h a1 "java/util/ArrayList" "elementData" "[Ljava/lang/Object;" (.ref r)) ∧ (Fld Z h a1 "java/util/AbstractList" "modCount" "I" (.int mc)) ∧ (Fld Z h a1 "java/util/ArrayList" "size" "I" (.int (0 : Int32))) ∧ (Arv Z h r yk (.object "java/lang/Object") (10 : Int32) [.null, .null, .null, .null, .null, .null, .null, .null, .null, .null] .null)
set_option maxRecDepth 65536 in
set_option maxHeartbeats 40000000 in
theorem rm13 (l : Launch) (Z : State) (a0 : Array Value) (hw : ∀ d ∈ tables_1, d.before a0 Z = true) (ws : List Jvm.Cond) (a1 : Addr) (xd : Addr) (xk : ClassId) (mc : Int32) (h0 : Heap) (n0 : Nat) (Z0 : n0 ≤ h0.size) (g_a1 : n0 ≤ a1) (ne_a1_xd : a1 ≠ xd) (P0 : Exa Z h0 a1 "java/util/ArrayList") (P1 : Fld Z h0 a1 "java/util/ArrayList" "elementData" "[Ljava/lang/Object;" (.ref xd)) (P2 : Fld Z h0 a1 "java/util/AbstractList" "modCount" "I" (.int mc)) (P3 : Fld Z h0 a1 "java/util/ArrayList" "size" "I" (.int (0 : Int32))) (P4 : Arv Z h0 xd xk (.object "java/lang/Object") (0 : Int32) [] .null) (P5 : Old Z n0 h0) (SD : Sta Z Z.heap "java/util/ArrayList" "DEFAULTCAPACITY_EMPTY_ELEMENTDATA" "[Ljava/lang/Object;" (.ref xd)) :
    MetFree l (⟨"java/util/ArrayList", "grow", "()[Ljava/lang/Object;"⟩ : MethodName) (head1 (Jvm.Cond.code (⟨"java/util/ArrayList", "grow", "()[Ljava/lang/Object;"⟩ : MethodName) jdk_38_method_7_code 1 (some (.array (.object "java/lang/Object"))) :: ws) ({ frames := 2, cells := 1, slots := 10, locals := 29 } : Room)) (fun a U => a = #[(.ref a1)] ∧ Z.Warmed39 U.vm ∧ U.heap = h0) (fun _ _ _ _ _ => True) (fun _ U o U' => ∃ v L, o = .returned v ∧ Q13 Z a1 xd xk mc h0 n0 v U'.heap L ∧ FrameEnd U o U' L ({ frames := 2, cells := 1, slots := 10, locals := 29 } : Room).cells ({ frames := 2, cells := 1, slots := 10, locals := 29 } : Room).slots) := by
  refine MetFree.of_bodySF (plainFor_of_name pn_13) hisR ?_
  intro p e s m args below meth c s₁ Bd hml0 hP hK
  obtain ⟨rfl, hZ, hh⟩ := hP
  have hx := Bd.exec
  have hby := Bd.bytes
  have hml : c.maxLocals = 1 := hml0
  have hown : s.vm.findClass "java/util/ArrayList" = some m.cls := findClass_of_methodNamed Bd.named
  have hnm := (name_of_methodNamed Bd.named Bd.method).1
  have X0 : Stand p l e ({ frames := 2, cells := 1, slots := 10, locals := 29 } : Room) s m #[(.ref a1)] below meth c s₁ [] 0 0 := Stand.of_body Bd
  have e0 : s₁.heap = h0 := by rw [← hh, Bd.state]; rfl
  have N0 := Fr.nil n0
  suffices G0 : ∀ K : State → Prop, (∀ (n : State) (v : Option Value) (L : List Loc), n.status = .running → Ended n below (.returned v) → Q13 Z a1 xd xk mc h0 n0 v n.heap L → FrameEnd s (.returned v) n L ({ frames := 2, cells := 1, slots := 10, locals := 29 } : Room).cells ({ frames := 2, cells := 1, slots := 10, locals := 29 } : Room).slots → K n) → own_Go p e below K (s₁.setTop (mkF m 0 #[.val (.ref a1)] [])) by
    obtain ⟨t, st, o, a, b, v, L, e1, q, fe⟩ := G0 (fun n => ∃ o, n.status = .running ∧ Ended n below o ∧ ∃ v L, o = .returned v ∧ Q13 Z a1 xd xk mc h0 n0 v n.heap L ∧ FrameEnd s o n L ({ frames := 2, cells := 1, slots := 10, locals := 29 } : Room).cells ({ frames := 2, cells := 1, slots := 10, locals := 29 } : Room).slots) (fun n v L a b q f => ⟨_, a, b, v, L, rfl, q, f⟩)
    exact ⟨t, o, castTop (ef_13 m a1) st, a, b, v, L, e1, q, fe⟩
  intro K fin
  show own_Go p e below K (s₁.setTop (mkF m 0 #[.val (.ref a1)] []))
  refine own_st (fun t k => XS.aloadN X0.here hx rfl (hb hby d13_0) rfl rfl k) ?_
  show own_Go p e below K (s₁.setTop (mkF m 1 #[.val (.ref a1)] [(.ref a1)]))
  refine own_st (fun t k => XS.aloadN X0.here hx rfl (hb hby d13_1) rfl rfl k) ?_
  show own_Go p e below K (s₁.setTop (mkF m 2 #[.val (.ref a1)] [(.ref a1), (.ref a1)]))
  obtain ⟨T1, X1, e1, st1⟩ := getF X0 hx hZ hown (host := "") (Or.inl (hw _ (List.mem_of_getElem? (i := 88) rfl))) Via.refl e0 P3 (g := (mkF m 2 #[.val (.ref a1)] [(.ref a1), (.ref a1)])) rfl rfl (hb hby d13_2)
  refine own_st st1 ?_
  show own_Go p e below K (T1.setTop (mkF m 5 #[.val (.ref a1)] [(.int (0 : Int32)), (.ref a1)]))
  refine own_st (fun t k => XS.iconst X1.here hx rfl (hb hby d13_5) k) ?_
  show own_Go p e below K (T1.setTop (mkF m 6 #[.val (.ref a1)] [(.int (1 : Int32)), (.int (0 : Int32)), (.ref a1)]))
  refine own_st (fun t k => XS.iadd X1.here hx rfl (hb hby d13_6) rfl k) ?_
  show own_Go p e below K (T1.setTop (mkF m 7 #[.val (.ref a1)] [(.int ((0 : Int32) + (1 : Int32))), (.ref a1)]))
  rw [show ((0 : Int32) + (1 : Int32)) = (1 : Int32) from by decide]
  show own_Go p e below K (T1.setTop (mkF m 7 #[.val (.ref a1)] [(.int (1 : Int32)), (.ref a1)]))
  obtain ⟨cq2, qv2, qv2'⟩ := P0.cell
  obtain ⟨_, _, ⟨T2, L2, k2, n2⟩, -, X2, ⟨Lc2, hQ2, l2, y2, z2⟩, st2⟩ := X1.privateBack hx (y := (⟨"java/util/ArrayList", "grow", "(I)[Ljava/lang/Object;"⟩ : MethodName)) hown (mvT hZ (hw _ (List.mem_of_getElem? (i := 100) rfl))) (mvT hZ (hw _ (List.mem_of_getElem? (i := 101) rfl))) (mvT hZ (hw _ (List.mem_of_getElem? (i := 103) rfl))) (Cond.privateMethod_at (mvP hZ (hw _ (List.mem_of_getElem? (i := 102) rfl)) (args := #[]))) (mvT hZ (hw _ (List.mem_of_getElem? (i := 104) rfl))) (by decide) (backOf (W := 0) (rm14 l Z a0 hw [] a1 (xd) (xk) (mc) h0 n0 Z0 g_a1 ne_a1_xd P0 P1 P2 P3 P4 P5 SD) hZ (hw _ (List.mem_of_getElem? (i := 104) rfl)) (hw _ (List.mem_of_getElem? (i := 11) rfl)) (by decide) (by decide)) (g := (mkF m 7 #[.val (.ref a1)] [(.int (1 : Int32)), (.ref a1)])) rfl (by rw [hml]; rfl) (Steps.refl _) (a := a1) (own_hat e1 qv2) qv2' (argsL := [(.int (1 : Int32))]) (rest := []) (lenOf pd_13_5 rfl) rfl (by show 2 * 0 + _ ≤ _; exact Nat.le_of_eq rfl) (hb hby d13_7) (fun _ _ => ⟨rfl, e1, (by decide : 0 + 1 ≤ _), (by decide : 0 + 10 ≤ _)⟩)
  dsimp only [Pt.U, Pt.locs, Pt.cells, Pt.slots] at X2 l2 y2 z2 st2 hQ2
  subst l2 y2 z2
  obtain ⟨r2, yk_2, rfl, hr2, fr2, N2q, Kq2, p2_0, p2_1, p2_2, p2_3, p2_4⟩ := hQ2
  have N2 := Fr.app N0 N2q
  have ne_a1_r2 : a1 ≠ r2 := Nat.ne_of_lt (Nat.lt_of_lt_of_le P0.lt fr2)
  have ne_xd_r2 : xd ≠ r2 := Nat.ne_of_lt (Nat.lt_of_lt_of_le P4.lt fr2)
  have g_r2 : n0 ≤ r2 := Nat.le_trans Z0 fr2
  have sz_r2 : h0.size ≤ r2 := Nat.le_trans (Keep.refl h0 [a1]).1 fr2
  have f3 : Arv Z T2.heap xd xk (.object "java/lang/Object") (0 : Int32) [] .null := P4.keep Kq2 (ninS (Ne.symm ne_a1_xd) nin0)
  have f4 : Old Z n0 T2.heap := P5.keep Kq2 (allS (P := fun x => n0 ≤ x) g_a1 all0)
  have Z2 : n0 ≤ T2.heap.size := Nat.le_trans Z0 Kq2.1
  have K2 : Keep h0 T2.heap [a1] := (Keep.refl h0 [a1]).trans Kq2 (allS (P := fun x => x ∈ [a1] ∨ h0.size ≤ x) (Or.inl (List.mem_of_getElem? (i := 0) rfl)) all0)
  refine own_tr st2 ?_
  show own_Go p e below K (T2.setTop (mkF m 10 #[.val (.ref a1)] [(.ref r2)]))
  obtain ⟨fs, hr, hrun, hended, hW, hsame⟩ := X2.leave (v := some (.ref r2)) (fun h => by rw [Bd.returns] at h; cases h)
  refine ⟨_, X2.areturnOut hx rfl Bd.returns rfl (hb hby d13_10) hr, fin _ _ _ hrun hended ?_ ⟨⟨_, rfl⟩, hW, hsame.mono (by decide) (by decide)⟩⟩
  show Q13 Z a1 xd xk mc h0 n0 _ T2.heap _
  exact ⟨_, yk_2, rfl, trivial, sz_r2, N2, K2, p2_0, p2_1, p2_2, p2_3, p2_4⟩
theorem d12_0 : decode jdk_38_method_24_code 0 = .ok (.iload_n 3, 1) := by decide +kernel
theorem d12_1 : decode jdk_38_method_24_code 1 = .ok (.aload_n 2, 1) := by decide +kernel
theorem d12_2 : decode jdk_38_method_24_code 2 = .ok (.arraylength, 1) := by decide +kernel
theorem d12_3 : decode jdk_38_method_24_code 3 = .ok (.if_icmp .ne 8, 3) := by decide +kernel
theorem d12_6 : decode jdk_38_method_24_code 6 = .ok (.aload_n 0, 1) := by decide +kernel
theorem d12_7 : decode jdk_38_method_24_code 7 = .ok (.invokevirtual 129, 3) := by decide +kernel
theorem d12_10 : decode jdk_38_method_24_code 10 = .ok (.astore_n 2, 1) := by decide +kernel
theorem d12_11 : decode jdk_38_method_24_code 11 = .ok (.aload_n 2, 1) := by decide +kernel
theorem d12_12 : decode jdk_38_method_24_code 12 = .ok (.iload_n 3, 1) := by decide +kernel
theorem d12_13 : decode jdk_38_method_24_code 13 = .ok (.aload_n 1, 1) := by decide +kernel
theorem d12_14 : decode jdk_38_method_24_code 14 = .ok (.aastore, 1) := by decide +kernel
theorem d12_15 : decode jdk_38_method_24_code 15 = .ok (.aload_n 0, 1) := by decide +kernel
theorem d12_16 : decode jdk_38_method_24_code 16 = .ok (.iload_n 3, 1) := by decide +kernel
theorem d12_17 : decode jdk_38_method_24_code 17 = .ok (.iconst 1, 1) := by decide +kernel
theorem d12_18 : decode jdk_38_method_24_code 18 = .ok (.iadd, 1) := by decide +kernel
theorem d12_19 : decode jdk_38_method_24_code 19 = .ok (.putfield 48, 3) := by decide +kernel
theorem d12_22 : decode jdk_38_method_24_code 22 = .ok (.return_, 1) := by decide +kernel
theorem pn_12 : plainName "java/util/ArrayList" = true := by first | (simp [plainName, overriddenIn]; done) | decide +kernel
theorem pd_12_4 : parseMethodDescriptor "()[Ljava/lang/Object;" = some ⟨[], some (.array (.object "java/lang/Object"))⟩ := by decide +kernel
theorem ef_12g (m : MethodId) (x0 : Addr) (x2 : Addr) (x3 : Int32) : entryFrame m #[(.ref x0), .null, (.ref x2), (.int x3)] 4 = mkF m 0 #[.val (.ref x0), .val .null, .val (.ref x2), .val (.int x3)] [] := by first | (simp [entryFrame, mkF, argsToLocals, Value.category]; done) | rfl
def Q12g (Z : State) (a1 : Addr) (xd : Addr) (xk : ClassId) (mc : Int32) (h0 : Heap) (n0 : Nat) (v : Option Value) (h : Heap) (L : List Loc) : Prop := ∃ (yb : Addr) (yk : ClassId), v = none ∧ Fr n0 L ∧ Keep h0 h [a1] ∧ (Exa Z h a1 "java/util/ArrayList") ∧ (Fld Z h a1 "java/util/ArrayList" "elementData" "[Ljava/lang/Object;" (.ref yb)) ∧ (Fld Z h a1 "java/util/AbstractList" "modCount" "I" (.int mc)) ∧ (Fld Z h a1 "java/util/ArrayList" "size" "I" (.int (1 : Int32))) ∧ (Arv Z h yb yk (.object "java/lang/Object") (10 : Int32) [.null, .null, .null, .null, .null, .null, .null, .null, .null, .null] .null) ∧ (h0.size ≤ yb) ∧ (a1 ≠ yb)
set_option maxRecDepth 65536 in
set_option maxHeartbeats 40000000 in
theorem rm12g (l : Launch) (Z : State) (a0 : Array Value) (hw : ∀ d ∈ tables_1, d.before a0 Z = true) (ws : List Jvm.Cond) (a1 : Addr) (xd : Addr) (xk : ClassId) (mc : Int32) (h0 : Heap) (n0 : Nat) (Z0 : n0 ≤ h0.size) (g_a1 : n0 ≤ a1) (ne_a1_xd : a1 ≠ xd) (P0 : Exa Z h0 a1 "java/util/ArrayList") (P1 : Fld Z h0 a1 "java/util/ArrayList" "elementData" "[Ljava/lang/Object;" (.ref xd)) (P2 : Fld Z h0 a1 "java/util/AbstractList" "modCount" "I" (.int mc)) (P3 : Fld Z h0 a1 "java/util/ArrayList" "size" "I" (.int (0 : Int32))) (P4 : Arv Z h0 xd xk (.object "java/lang/Object") (0 : Int32) [] .null) (P5 : Old Z n0 h0) (SD : Sta Z Z.heap "java/util/ArrayList" "DEFAULTCAPACITY_EMPTY_ELEMENTDATA" "[Ljava/lang/Object;" (.ref xd)) :
    MetFree l (⟨"java/util/ArrayList", "add", "(Ljava/lang/Object;[Ljava/lang/Object;I)V"⟩ : MethodName) (head1 (Jvm.Cond.code (⟨"java/util/ArrayList", "add", "(Ljava/lang/Object;[Ljava/lang/Object;I)V"⟩ : MethodName) jdk_38_method_24_code 4 none :: ws) ({ frames := 3, cells := 1, slots := 10, locals := 41 } : Room)) (fun a U => a = #[(.ref a1), .null, (.ref xd), (.int (0 : Int32))] ∧ Z.Warmed39 U.vm ∧ U.heap = h0) (fun _ _ _ _ _ => True) (fun _ U o U' => ∃ v L, o = .returned v ∧ Q12g Z a1 xd xk mc h0 n0 v U'.heap L ∧ FrameEnd U o U' L ({ frames := 3, cells := 1, slots := 10, locals := 41 } : Room).cells ({ frames := 3, cells := 1, slots := 10, locals := 41 } : Room).slots) := by
  refine MetFree.of_bodySF (plainFor_of_name pn_12) hisR ?_
  intro p e s m args below meth c s₁ Bd hml0 hP hK
  obtain ⟨rfl, hZ, hh⟩ := hP
  have hx := Bd.exec
  have hby := Bd.bytes
  have hml : c.maxLocals = 4 := hml0
  have hown : s.vm.findClass "java/util/ArrayList" = some m.cls := findClass_of_methodNamed Bd.named
  have hnm := (name_of_methodNamed Bd.named Bd.method).1
  have X0 : Stand p l e ({ frames := 3, cells := 1, slots := 10, locals := 41 } : Room) s m #[(.ref a1), .null, (.ref xd), (.int (0 : Int32))] below meth c s₁ [] 0 0 := Stand.of_body Bd
  have e0 : s₁.heap = h0 := by rw [← hh, Bd.state]; rfl
  have N0 := Fr.nil n0
  suffices G0 : ∀ K : State → Prop, (∀ (n : State) (v : Option Value) (L : List Loc), n.status = .running → Ended n below (.returned v) → Q12g Z a1 xd xk mc h0 n0 v n.heap L → FrameEnd s (.returned v) n L ({ frames := 3, cells := 1, slots := 10, locals := 41 } : Room).cells ({ frames := 3, cells := 1, slots := 10, locals := 41 } : Room).slots → K n) → own_Go p e below K (s₁.setTop (mkF m 0 #[.val (.ref a1), .val .null, .val (.ref xd), .val (.int (0 : Int32))] [])) by
    obtain ⟨t, st, o, a, b, v, L, e1, q, fe⟩ := G0 (fun n => ∃ o, n.status = .running ∧ Ended n below o ∧ ∃ v L, o = .returned v ∧ Q12g Z a1 xd xk mc h0 n0 v n.heap L ∧ FrameEnd s o n L ({ frames := 3, cells := 1, slots := 10, locals := 41 } : Room).cells ({ frames := 3, cells := 1, slots := 10, locals := 41 } : Room).slots) (fun n v L a b q f => ⟨_, a, b, v, L, rfl, q, f⟩)
    exact ⟨t, o, castTop (ef_12g m a1 xd (0 : Int32)) st, a, b, v, L, e1, q, fe⟩
  intro K fin
  show own_Go p e below K (s₁.setTop (mkF m 0 #[.val (.ref a1), .val .null, .val (.ref xd), .val (.int (0 : Int32))] []))
  refine own_st (fun t k => XS.iloadN X0.here hx rfl (hb hby d12_0) rfl k) ?_
  show own_Go p e below K (s₁.setTop (mkF m 1 #[.val (.ref a1), .val .null, .val (.ref xd), .val (.int (0 : Int32))] [(.int (0 : Int32))]))
  refine own_st (fun t k => XS.aloadN X0.here hx rfl (hb hby d12_1) rfl rfl k) ?_
  show own_Go p e below K (s₁.setTop (mkF m 2 #[.val (.ref a1), .val .null, .val (.ref xd), .val (.int (0 : Int32))] [(.ref xd), (.int (0 : Int32))]))
  obtain ⟨cl1, Ar1, -, Sa1, Ma1, -, -⟩ := id P4
  refine own_st (X0.arraylength hx (own_hat e0 Ar1.1) (State.isArrayOf_alike hZ.alike Ar1.2.1) (g := (mkF m 2 #[.val (.ref a1), .val .null, .val (.ref xd), .val (.int (0 : Int32))] [(.ref xd), (.int (0 : Int32))])) rfl rfl (hb hby d12_2)) ?_
  rw [len_of Sa1 Ma1]
  show own_Go p e below K (s₁.setTop (mkF m 3 #[.val (.ref a1), .val .null, .val (.ref xd), .val (.int (0 : Int32))] [(.int (0 : Int32)), (.int (0 : Int32))]))
  refine own_st (fun t k => XS.icmpNo X0.here hx rfl (hb hby d12_3) rfl (teq (by decide : (0 : Int32) = (0 : Int32))).2 k) ?_
  show own_Go p e below K (s₁.setTop (mkF m 6 #[.val (.ref a1), .val .null, .val (.ref xd), .val (.int (0 : Int32))] []))
  refine own_st (fun t k => XS.aloadN X0.here hx rfl (hb hby d12_6) rfl rfl k) ?_
  show own_Go p e below K (s₁.setTop (mkF m 7 #[.val (.ref a1), .val .null, .val (.ref xd), .val (.int (0 : Int32))] [(.ref a1)]))
  obtain ⟨cq2, qv2, qv2'⟩ := P0.cell
  obtain ⟨_, _, ⟨T2, L2, k2, n2⟩, -, X2, ⟨Lc2, hQ2, l2, y2, z2⟩, st2⟩ := X0.privateBack hx (y := (⟨"java/util/ArrayList", "grow", "()[Ljava/lang/Object;"⟩ : MethodName)) hown (mvT hZ (hw _ (List.mem_of_getElem? (i := 95) rfl))) (mvT hZ (hw _ (List.mem_of_getElem? (i := 96) rfl))) (mvT hZ (hw _ (List.mem_of_getElem? (i := 98) rfl))) (Cond.privateMethod_at (mvP hZ (hw _ (List.mem_of_getElem? (i := 97) rfl)) (args := #[]))) (mvT hZ (hw _ (List.mem_of_getElem? (i := 99) rfl))) (by decide) (backOf (W := 0) (rm13 l Z a0 hw [] a1 (xd) (xk) (mc) h0 n0 Z0 g_a1 ne_a1_xd P0 P1 P2 P3 P4 P5 SD) hZ (hw _ (List.mem_of_getElem? (i := 99) rfl)) (hw _ (List.mem_of_getElem? (i := 11) rfl)) (by decide) (by decide)) (g := (mkF m 7 #[.val (.ref a1), .val .null, .val (.ref xd), .val (.int (0 : Int32))] [(.ref a1)])) rfl (by rw [hml]; rfl) (Steps.refl _) (a := a1) (own_hat e0 qv2) qv2' (argsL := []) (rest := []) (lenOf pd_12_4 rfl) rfl (by show 2 * 0 + _ ≤ _; exact Nat.le_of_eq rfl) (hb hby d12_7) (fun _ _ => ⟨rfl, e0, (by decide : 0 + 1 ≤ _), (by decide : 0 + 10 ≤ _)⟩)
  dsimp only [Pt.U, Pt.locs, Pt.cells, Pt.slots] at X2 l2 y2 z2 st2 hQ2
  subst l2 y2 z2
  obtain ⟨r2, yk_2, rfl, hr2, fr2, N2q, Kq2, p2_0, p2_1, p2_2, p2_3, p2_4⟩ := hQ2
  have N2 := Fr.app N0 N2q
  have ne_a1_r2 : a1 ≠ r2 := Nat.ne_of_lt (Nat.lt_of_lt_of_le P0.lt fr2)
  have ne_xd_r2 : xd ≠ r2 := Nat.ne_of_lt (Nat.lt_of_lt_of_le P4.lt fr2)
  have g_r2 : n0 ≤ r2 := Nat.le_trans Z0 fr2
  have sz_r2 : h0.size ≤ r2 := Nat.le_trans (Keep.refl h0 [a1]).1 fr2
  have f3 : Arv Z T2.heap xd xk (.object "java/lang/Object") (0 : Int32) [] .null := P4.keep Kq2 (ninS (Ne.symm ne_a1_xd) nin0)
  have f4 : Old Z n0 T2.heap := P5.keep Kq2 (allS (P := fun x => n0 ≤ x) g_a1 all0)
  have Z2 : n0 ≤ T2.heap.size := Nat.le_trans Z0 Kq2.1
  have K2 : Keep h0 T2.heap [a1] := (Keep.refl h0 [a1]).trans Kq2 (allS (P := fun x => x ∈ [a1] ∨ h0.size ≤ x) (Or.inl (List.mem_of_getElem? (i := 0) rfl)) all0)
  refine own_tr st2 ?_
  show own_Go p e below K (T2.setTop (mkF m 10 #[.val (.ref a1), .val .null, .val (.ref xd), .val (.int (0 : Int32))] [(.ref r2)]))
  refine own_st (fun t k => XS.astoreN X2.here hx rfl (hb hby d12_10) rfl rfl (l' := #[.val (.ref a1), .val .null, .val (.ref r2), .val (.int (0 : Int32))]) rfl k) ?_
  show own_Go p e below K (T2.setTop (mkF m 11 #[.val (.ref a1), .val .null, .val (.ref r2), .val (.int (0 : Int32))] []))
  refine own_st (fun t k => XS.aloadN X2.here hx rfl (hb hby d12_11) rfl rfl k) ?_
  show own_Go p e below K (T2.setTop (mkF m 12 #[.val (.ref a1), .val .null, .val (.ref r2), .val (.int (0 : Int32))] [(.ref r2)]))
  refine own_st (fun t k => XS.iloadN X2.here hx rfl (hb hby d12_12) rfl k) ?_
  show own_Go p e below K (T2.setTop (mkF m 13 #[.val (.ref a1), .val .null, .val (.ref r2), .val (.int (0 : Int32))] [(.int (0 : Int32)), (.ref r2)]))
  refine own_st (fun t k => XS.aloadN X2.here hx rfl (hb hby d12_13) rfl rfl k) ?_
  show own_Go p e below K (T2.setTop (mkF m 14 #[.val (.ref a1), .val .null, .val (.ref r2), .val (.int (0 : Int32))] [.null, (.int (0 : Int32)), (.ref r2)]))
  obtain ⟨cl5, Ar5, qa5, Sa5, Ma5, Ha5, Ga5⟩ := id p2_4
  have hin5 : ¬ ((0 : Int32) < 0 ∨ cl5.slots.size ≤ ((0 : Int32)).toNatClampNeg) := inb_of Sa5 ⟨by decide, by decide⟩
  obtain ⟨T6, h6, X6, e6, W6, st6⟩ := stR X2 hx hZ rfl Ar5 (j := (0 : Int32)) hin5 rfl (Or.inl rfl) (g := (mkF m 14 #[.val (.ref a1), .val .null, .val (.ref r2), .val (.int (0 : Int32))] [.null, (.int (0 : Int32)), (.ref r2)])) rfl rfl (hb hby d12_14)
  have V6 : Arv Z h6 r2 yk_2 (.object "java/lang/Object") (10 : Int32) [.null, .null, .null, .null, .null, .null, .null, .null, .null, .null] .null := Arv.set Ar5 qa5 Sa5 Ma5 Ha5 Ga5 rfl W6 0 rfl (Nat.le_of_ble_eq_true rfl)
  have f7 : Arv Z h6 xd xk (.object "java/lang/Object") (0 : Int32) [] .null := f3.other W6 ne_xd_r2
  have f8 : Old Z n0 h6 := f4.wr W6 g_r2
  have f9 : Exa Z h6 a1 "java/util/ArrayList" := p2_0.wr W6
  have f10 : Fld Z h6 a1 "java/util/ArrayList" "elementData" "[Ljava/lang/Object;" (.ref r2) := p2_1.other W6 (Or.inl ne_a1_r2)
  have f11 : Fld Z h6 a1 "java/util/AbstractList" "modCount" "I" (.int mc) := p2_2.other W6 (Or.inl ne_a1_r2)
  have f12 : Fld Z h6 a1 "java/util/ArrayList" "size" "I" (.int (0 : Int32)) := p2_3.other W6 (Or.inl ne_a1_r2)
  have N6 := Fr.snoc X6 N2 g_r2
  have Z6 : n0 ≤ h6.size := Nat.le_trans Z2 (Keep.of_wr W6).1
  have K6 : Keep h0 h6 [a1] := K2.wr W6 (Or.inr sz_r2)
  refine own_st st6 ?_
  show own_Go p e below K (T6.setTop (mkF m 15 #[.val (.ref a1), .val .null, .val (.ref r2), .val (.int (0 : Int32))] []))
  refine own_st (fun t k => XS.aloadN X6.here hx rfl (hb hby d12_15) rfl rfl k) ?_
  show own_Go p e below K (T6.setTop (mkF m 16 #[.val (.ref a1), .val .null, .val (.ref r2), .val (.int (0 : Int32))] [(.ref a1)]))
  refine own_st (fun t k => XS.iloadN X6.here hx rfl (hb hby d12_16) rfl k) ?_
  show own_Go p e below K (T6.setTop (mkF m 17 #[.val (.ref a1), .val .null, .val (.ref r2), .val (.int (0 : Int32))] [(.int (0 : Int32)), (.ref a1)]))
  refine own_st (fun t k => XS.iconst X6.here hx rfl (hb hby d12_17) k) ?_
  show own_Go p e below K (T6.setTop (mkF m 18 #[.val (.ref a1), .val .null, .val (.ref r2), .val (.int (0 : Int32))] [(.int (1 : Int32)), (.int (0 : Int32)), (.ref a1)]))
  refine own_st (fun t k => XS.iadd X6.here hx rfl (hb hby d12_18) rfl k) ?_
  show own_Go p e below K (T6.setTop (mkF m 19 #[.val (.ref a1), .val .null, .val (.ref r2), .val (.int (0 : Int32))] [(.int ((0 : Int32) + (1 : Int32))), (.ref a1)]))
  rw [show ((0 : Int32) + (1 : Int32)) = (1 : Int32) from by decide]
  show own_Go p e below K (T6.setTop (mkF m 19 #[.val (.ref a1), .val .null, .val (.ref r2), .val (.int (0 : Int32))] [(.int (1 : Int32)), (.ref a1)]))
  obtain ⟨T13, h13, X13, e13, W13, st13⟩ := putF X6 hx hZ hown (host := "") (Or.inl (hw _ (List.mem_of_getElem? (i := 88) rfl))) Via.refl e6 f12 f9 (Or.inl (hw _ (List.mem_of_getElem? (i := 89) rfl))) (hw _ (List.mem_of_getElem? (i := 10) rfl)) (ty := .int) (by decide) rfl rfl (g := (mkF m 19 #[.val (.ref a1), .val .null, .val (.ref r2), .val (.int (0 : Int32))] [(.int (1 : Int32)), (.ref a1)])) rfl rfl (hb hby d12_19)
  have fw13 : Fld Z h13 a1 "java/util/ArrayList" "size" "I" (.int (1 : Int32)) := f12.same W13
  have f14 : Arv Z h13 xd xk (.object "java/lang/Object") (0 : Int32) [] .null := f7.other W13 (Ne.symm ne_a1_xd)
  have f15 : Old Z n0 h13 := f8.wr W13 g_a1
  have f16 : Exa Z h13 a1 "java/util/ArrayList" := f9.wr W13
  have f17 : Fld Z h13 a1 "java/util/ArrayList" "elementData" "[Ljava/lang/Object;" (.ref r2) := f10.other W13 (Or.inr (slot_ne (Or.inl (hw _ (List.mem_of_getElem? (i := 32) rfl))) (Or.inl (hw _ (List.mem_of_getElem? (i := 89) rfl))) (by decide) (t := (.array (.object "java/lang/Object"))) (t' := .int) (by decide) (by decide)))
  have f18 : Fld Z h13 a1 "java/util/AbstractList" "modCount" "I" (.int mc) := f11.other W13 (Or.inr (slot_ne (Or.inl (hw _ (List.mem_of_getElem? (i := 29) rfl))) (Or.inl (hw _ (List.mem_of_getElem? (i := 89) rfl))) (by decide) (t := .int) (t' := .int) (by decide) (by decide)))
  have f19 : Arv Z h13 r2 yk_2 (.object "java/lang/Object") (10 : Int32) [.null, .null, .null, .null, .null, .null, .null, .null, .null, .null] .null := V6.other W13 (Ne.symm ne_a1_r2)
  have N13 := Fr.snoc X13 N6 g_a1
  have Z13 : n0 ≤ h13.size := Nat.le_trans Z6 (Keep.of_wr W13).1
  have K13 : Keep h0 h13 [a1] := K6.wr W13 (Or.inl (List.mem_of_getElem? (i := 0) rfl))
  refine own_st st13 ?_
  show own_Go p e below K (T13.setTop (mkF m 22 #[.val (.ref a1), .val .null, .val (.ref r2), .val (.int (0 : Int32))] []))
  obtain ⟨fs, hr, hrun, hended, hW, hsame⟩ := X13.leave (v := none) (fun _ => rfl)
  refine ⟨_, X13.returnOut hx Bd.returns (hb hby d12_22) hr, fin _ _ _ hrun hended ?_ ⟨⟨_, rfl⟩, hW, hsame.mono (by decide) (by decide)⟩⟩
  show Q12g Z a1 xd xk mc h0 n0 _ T13.heap _
  rw [e13]
  exact ⟨r2, yk_2, rfl, N13, K13, f16, f17, f18, fw13, f19, sz_r2, ne_a1_r2⟩
theorem d11_0 : decode jdk_38_method_25_code 0 = .ok (.aload_n 0, 1) := by decide +kernel
theorem d11_1 : decode jdk_38_method_25_code 1 = .ok (.dup, 1) := by decide +kernel
theorem d11_2 : decode jdk_38_method_25_code 2 = .ok (.getfield 63, 3) := by decide +kernel
theorem d11_5 : decode jdk_38_method_25_code 5 = .ok (.iconst 1, 1) := by decide +kernel
theorem d11_6 : decode jdk_38_method_25_code 6 = .ok (.iadd, 1) := by decide +kernel
theorem d11_7 : decode jdk_38_method_25_code 7 = .ok (.putfield 63, 3) := by decide +kernel
theorem d11_10 : decode jdk_38_method_25_code 10 = .ok (.aload_n 0, 1) := by decide +kernel
theorem d11_11 : decode jdk_38_method_25_code 11 = .ok (.aload_n 1, 1) := by decide +kernel
theorem d11_12 : decode jdk_38_method_25_code 12 = .ok (.aload_n 0, 1) := by decide +kernel
theorem d11_13 : decode jdk_38_method_25_code 13 = .ok (.getfield 9, 3) := by decide +kernel
theorem d11_16 : decode jdk_38_method_25_code 16 = .ok (.aload_n 0, 1) := by decide +kernel
theorem d11_17 : decode jdk_38_method_25_code 17 = .ok (.getfield 48, 3) := by decide +kernel
theorem d11_20 : decode jdk_38_method_25_code 20 = .ok (.invokevirtual 131, 3) := by decide +kernel
theorem d11_23 : decode jdk_38_method_25_code 23 = .ok (.iconst 1, 1) := by decide +kernel
theorem d11_24 : decode jdk_38_method_25_code 24 = .ok (.ireturn, 1) := by decide +kernel
theorem pn_11 : plainName "java/util/ArrayList" = true := by first | (simp [plainName, overriddenIn]; done) | decide +kernel
theorem pd_11_3 : parseMethodDescriptor "(Ljava/lang/Object;[Ljava/lang/Object;I)V" = some ⟨[(.object "java/lang/Object"), (.array (.object "java/lang/Object")), .int], none⟩ := by decide +kernel
theorem ef_11g (m : MethodId) (x0 : Addr) : entryFrame m #[(.ref x0), .null] 2 = mkF m 0 #[.val (.ref x0), .val .null] [] := by first | (simp [entryFrame, mkF, argsToLocals, Value.category]; done) | rfl
def Q11g (Z : State) (a1 : Addr) (xd : Addr) (xk : ClassId) (mc : Int32) (h0 : Heap) (n0 : Nat) (v : Option Value) (h : Heap) (L : List Loc) : Prop := ∃ (r : Int32) (yb : Addr) (yk : ClassId), v = some (.int r) ∧ (True) ∧ Fr n0 L ∧ Keep h0 h [a1] ∧ (Exa Z h a1 "java/util/ArrayList") ∧ (Fld Z h a1 "java/util/ArrayList" "elementData" "[Ljava/lang/Object;" (.ref yb)) ∧ (Fld Z h a1 "java/util/AbstractList" "modCount" "I" (.int (mc + (1 : Int32)))) ∧ (Fld Z h a1 "java/util/ArrayList" "size" "I" (.int (1 : Int32))) ∧ (Arv Z h yb yk (.object "java/lang/Object") (10 : Int32) [.null, .null, .null, .null, .null, .null, .null, .null, .null, .null] .null) ∧ (h0.size ≤ yb) ∧ (a1 ≠ yb)
set_option maxRecDepth 65536 in
set_option maxHeartbeats 40000000 in
theorem rm11g (l : Launch) (Z : State) (a0 : Array Value) (hw : ∀ d ∈ tables_1, d.before a0 Z = true) (ws : List Jvm.Cond) (a1 : Addr) (xd : Addr) (xk : ClassId) (mc : Int32) (h0 : Heap) (n0 : Nat) (Z0 : n0 ≤ h0.size) (g_a1 : n0 ≤ a1) (ne_a1_xd : a1 ≠ xd) (P0 : Exa Z h0 a1 "java/util/ArrayList") (P1 : Fld Z h0 a1 "java/util/ArrayList" "elementData" "[Ljava/lang/Object;" (.ref xd)) (P2 : Fld Z h0 a1 "java/util/AbstractList" "modCount" "I" (.int mc)) (P3 : Fld Z h0 a1 "java/util/ArrayList" "size" "I" (.int (0 : Int32))) (P4 : Arv Z h0 xd xk (.object "java/lang/Object") (0 : Int32) [] .null) (P5 : Old Z n0 h0) (SD : Sta Z Z.heap "java/util/ArrayList" "DEFAULTCAPACITY_EMPTY_ELEMENTDATA" "[Ljava/lang/Object;" (.ref xd)) :
    MetFree l (⟨"java/util/ArrayList", "add", "(Ljava/lang/Object;)Z"⟩ : MethodName) (head1 (Jvm.Cond.code (⟨"java/util/ArrayList", "add", "(Ljava/lang/Object;)Z"⟩ : MethodName) jdk_38_method_25_code 2 (some .boolean) :: ws) ({ frames := 4, cells := 1, slots := 10, locals := 56 } : Room)) (fun a U => a = #[(.ref a1), .null] ∧ Z.Warmed39 U.vm ∧ U.heap = h0) (fun _ _ _ _ _ => True) (fun _ U o U' => ∃ v L, o = .returned v ∧ Q11g Z a1 xd xk mc h0 n0 v U'.heap L ∧ FrameEnd U o U' L ({ frames := 4, cells := 1, slots := 10, locals := 56 } : Room).cells ({ frames := 4, cells := 1, slots := 10, locals := 56 } : Room).slots) := by
  refine MetFree.of_bodySF (plainFor_of_name pn_11) hisR ?_
  intro p e s m args below meth c s₁ Bd hml0 hP hK
  obtain ⟨rfl, hZ, hh⟩ := hP
  have hx := Bd.exec
  have hby := Bd.bytes
  have hml : c.maxLocals = 2 := hml0
  have hown : s.vm.findClass "java/util/ArrayList" = some m.cls := findClass_of_methodNamed Bd.named
  have hnm := (name_of_methodNamed Bd.named Bd.method).1
  have X0 : Stand p l e ({ frames := 4, cells := 1, slots := 10, locals := 56 } : Room) s m #[(.ref a1), .null] below meth c s₁ [] 0 0 := Stand.of_body Bd
  have e0 : s₁.heap = h0 := by rw [← hh, Bd.state]; rfl
  have N0 := Fr.nil n0
  suffices G0 : ∀ K : State → Prop, (∀ (n : State) (v : Option Value) (L : List Loc), n.status = .running → Ended n below (.returned v) → Q11g Z a1 xd xk mc h0 n0 v n.heap L → FrameEnd s (.returned v) n L ({ frames := 4, cells := 1, slots := 10, locals := 56 } : Room).cells ({ frames := 4, cells := 1, slots := 10, locals := 56 } : Room).slots → K n) → own_Go p e below K (s₁.setTop (mkF m 0 #[.val (.ref a1), .val .null] [])) by
    obtain ⟨t, st, o, a, b, v, L, e1, q, fe⟩ := G0 (fun n => ∃ o, n.status = .running ∧ Ended n below o ∧ ∃ v L, o = .returned v ∧ Q11g Z a1 xd xk mc h0 n0 v n.heap L ∧ FrameEnd s o n L ({ frames := 4, cells := 1, slots := 10, locals := 56 } : Room).cells ({ frames := 4, cells := 1, slots := 10, locals := 56 } : Room).slots) (fun n v L a b q f => ⟨_, a, b, v, L, rfl, q, f⟩)
    exact ⟨t, o, castTop (ef_11g m a1) st, a, b, v, L, e1, q, fe⟩
  intro K fin
  show own_Go p e below K (s₁.setTop (mkF m 0 #[.val (.ref a1), .val .null] []))
  refine own_st (fun t k => XS.aloadN X0.here hx rfl (hb hby d11_0) rfl rfl k) ?_
  show own_Go p e below K (s₁.setTop (mkF m 1 #[.val (.ref a1), .val .null] [(.ref a1)]))
  refine own_st (fun t k => XS.dup X0.here hx rfl (hb hby d11_1) rfl rfl k) ?_
  show own_Go p e below K (s₁.setTop (mkF m 2 #[.val (.ref a1), .val .null] [(.ref a1), (.ref a1)]))
  obtain ⟨T1, X1, e1, st1⟩ := getF X0 hx hZ hown (host := "") (Or.inl (hw _ (List.mem_of_getElem? (i := 86) rfl))) (Via.of (hw _ (List.mem_of_getElem? (i := 87) rfl))) e0 P2 (g := (mkF m 2 #[.val (.ref a1), .val .null] [(.ref a1), (.ref a1)])) rfl rfl (hb hby d11_2)
  refine own_st st1 ?_
  show own_Go p e below K (T1.setTop (mkF m 5 #[.val (.ref a1), .val .null] [(.int mc), (.ref a1)]))
  refine own_st (fun t k => XS.iconst X1.here hx rfl (hb hby d11_5) k) ?_
  show own_Go p e below K (T1.setTop (mkF m 6 #[.val (.ref a1), .val .null] [(.int (1 : Int32)), (.int mc), (.ref a1)]))
  refine own_st (fun t k => XS.iadd X1.here hx rfl (hb hby d11_6) rfl k) ?_
  show own_Go p e below K (T1.setTop (mkF m 7 #[.val (.ref a1), .val .null] [(.int (mc + (1 : Int32))), (.ref a1)]))
  obtain ⟨T2, h2, X2, e2, W2, st2⟩ := putF X1 hx hZ hown (host := "") (Or.inl (hw _ (List.mem_of_getElem? (i := 86) rfl))) (Via.of (hw _ (List.mem_of_getElem? (i := 87) rfl))) e1 P2 P0 (Or.inl (hw _ (List.mem_of_getElem? (i := 29) rfl))) (hw _ (List.mem_of_getElem? (i := 10) rfl)) (ty := .int) (by decide) rfl rfl (g := (mkF m 7 #[.val (.ref a1), .val .null] [(.int (mc + (1 : Int32))), (.ref a1)])) rfl rfl (hb hby d11_7)
  have fw2 : Fld Z h2 a1 "java/util/AbstractList" "modCount" "I" (.int (mc + (1 : Int32))) := P2.same W2
  have f3 : Exa Z h2 a1 "java/util/ArrayList" := P0.wr W2
  have f4 : Fld Z h2 a1 "java/util/ArrayList" "elementData" "[Ljava/lang/Object;" (.ref xd) := P1.other W2 (Or.inr (slot_ne (Or.inl (hw _ (List.mem_of_getElem? (i := 32) rfl))) (Or.inl (hw _ (List.mem_of_getElem? (i := 29) rfl))) (by decide) (t := (.array (.object "java/lang/Object"))) (t' := .int) (by decide) (by decide)))
  have f5 : Fld Z h2 a1 "java/util/ArrayList" "size" "I" (.int (0 : Int32)) := P3.other W2 (Or.inr (slot_ne (Or.inl (hw _ (List.mem_of_getElem? (i := 89) rfl))) (Or.inl (hw _ (List.mem_of_getElem? (i := 29) rfl))) (by decide) (t := .int) (t' := .int) (by decide) (by decide)))
  have f6 : Arv Z h2 xd xk (.object "java/lang/Object") (0 : Int32) [] .null := P4.other W2 (Ne.symm ne_a1_xd)
  have f7 : Old Z n0 h2 := P5.wr W2 g_a1
  have N2 := Fr.snoc X2 N0 g_a1
  have Z2 : n0 ≤ h2.size := Nat.le_trans Z0 (Keep.of_wr W2).1
  have K2 : Keep h0 h2 [a1] := (Keep.refl h0 [a1]).wr W2 (Or.inl (List.mem_of_getElem? (i := 0) rfl))
  refine own_st st2 ?_
  show own_Go p e below K (T2.setTop (mkF m 10 #[.val (.ref a1), .val .null] []))
  refine own_st (fun t k => XS.aloadN X2.here hx rfl (hb hby d11_10) rfl rfl k) ?_
  show own_Go p e below K (T2.setTop (mkF m 11 #[.val (.ref a1), .val .null] [(.ref a1)]))
  refine own_st (fun t k => XS.aloadN X2.here hx rfl (hb hby d11_11) rfl rfl k) ?_
  show own_Go p e below K (T2.setTop (mkF m 12 #[.val (.ref a1), .val .null] [.null, (.ref a1)]))
  refine own_st (fun t k => XS.aloadN X2.here hx rfl (hb hby d11_12) rfl rfl k) ?_
  show own_Go p e below K (T2.setTop (mkF m 13 #[.val (.ref a1), .val .null] [(.ref a1), .null, (.ref a1)]))
  obtain ⟨T8, X8, e8, st8⟩ := getF X2 hx hZ hown (host := "") (Or.inl (hw _ (List.mem_of_getElem? (i := 31) rfl))) Via.refl e2 f4 (g := (mkF m 13 #[.val (.ref a1), .val .null] [(.ref a1), .null, (.ref a1)])) rfl rfl (hb hby d11_13)
  refine own_st st8 ?_
  show own_Go p e below K (T8.setTop (mkF m 16 #[.val (.ref a1), .val .null] [(.ref xd), .null, (.ref a1)]))
  refine own_st (fun t k => XS.aloadN X8.here hx rfl (hb hby d11_16) rfl rfl k) ?_
  show own_Go p e below K (T8.setTop (mkF m 17 #[.val (.ref a1), .val .null] [(.ref a1), (.ref xd), .null, (.ref a1)]))
  obtain ⟨T9, X9, e9, st9⟩ := getF X8 hx hZ hown (host := "") (Or.inl (hw _ (List.mem_of_getElem? (i := 88) rfl))) Via.refl e8 f5 (g := (mkF m 17 #[.val (.ref a1), .val .null] [(.ref a1), (.ref xd), .null, (.ref a1)])) rfl rfl (hb hby d11_17)
  refine own_st st9 ?_
  show own_Go p e below K (T9.setTop (mkF m 20 #[.val (.ref a1), .val .null] [(.int (0 : Int32)), (.ref xd), .null, (.ref a1)]))
  obtain ⟨cq10, qv10, qv10'⟩ := f3.cell
  obtain ⟨_, _, ⟨T10, L10, k10, n10⟩, -, X10, ⟨Lc10, hQ10, l10, y10, z10⟩, st10⟩ := X9.privateBack hx (y := (⟨"java/util/ArrayList", "add", "(Ljava/lang/Object;[Ljava/lang/Object;I)V"⟩ : MethodName)) hown (mvT hZ (hw _ (List.mem_of_getElem? (i := 90) rfl))) (mvT hZ (hw _ (List.mem_of_getElem? (i := 91) rfl))) (mvT hZ (hw _ (List.mem_of_getElem? (i := 93) rfl))) (Cond.privateMethod_at (mvP hZ (hw _ (List.mem_of_getElem? (i := 92) rfl)) (args := #[]))) (mvT hZ (hw _ (List.mem_of_getElem? (i := 94) rfl))) (by decide) (backOf (W := 0) (rm12g l Z a0 hw [] a1 xd (xk) ((mc + (1 : Int32))) h2 n0 Z2 g_a1 ne_a1_xd f3 f4 fw2 f5 f6 f7 SD) hZ (hw _ (List.mem_of_getElem? (i := 94) rfl)) (hw _ (List.mem_of_getElem? (i := 11) rfl)) (by decide) (by decide)) (g := (mkF m 20 #[.val (.ref a1), .val .null] [(.int (0 : Int32)), (.ref xd), .null, (.ref a1)])) rfl (by rw [hml]; rfl) (Steps.refl _) (a := a1) (own_hat e9 qv10) qv10' (argsL := [.null, (.ref xd), (.int (0 : Int32))]) (rest := []) (lenOf pd_11_3 rfl) rfl (by show 2 * 0 + _ ≤ _; exact Nat.le_of_eq rfl) (hb hby d11_20) (fun _ _ => ⟨rfl, e9, (by decide : 0 + 1 ≤ _), (by decide : 0 + 10 ≤ _)⟩)
  dsimp only [Pt.U, Pt.locs, Pt.cells, Pt.slots] at X10 l10 y10 z10 st10 hQ10
  subst l10 y10 z10
  obtain ⟨yb_10, yk_10, rfl, N10q, Kq10, p10_0, p10_1, p10_2, p10_3, p10_4, pp10_0, pp10_1⟩ := hQ10
  have N10 := Fr.app N2 N10q
  have f11 : Arv Z T10.heap xd xk (.object "java/lang/Object") (0 : Int32) [] .null := f6.keep Kq10 (ninS (Ne.symm ne_a1_xd) nin0)
  have f12 : Old Z n0 T10.heap := f7.keep Kq10 (allS (P := fun x => n0 ≤ x) g_a1 all0)
  have Z10 : n0 ≤ T10.heap.size := Nat.le_trans Z2 Kq10.1
  have K10 : Keep h0 T10.heap [a1] := K2.trans Kq10 (allS (P := fun x => x ∈ [a1] ∨ h0.size ≤ x) (Or.inl (List.mem_of_getElem? (i := 0) rfl)) all0)
  refine own_tr st10 ?_
  show own_Go p e below K (T10.setTop (mkF m 23 #[.val (.ref a1), .val .null] []))
  refine own_st (fun t k => XS.iconst X10.here hx rfl (hb hby d11_23) k) ?_
  show own_Go p e below K (T10.setTop (mkF m 24 #[.val (.ref a1), .val .null] [(.int (1 : Int32))]))
  obtain ⟨fs, hr, hrun, hended, hW, hsame⟩ := X10.leave (v := some (.int (nar .boolean (1 : Int32)))) (fun h => by rw [Bd.returns] at h; cases h)
  refine ⟨_, retN X10 hx (t := .boolean) Bd.returns (by simp) (hb hby d11_24) hr, fin _ _ _ hrun hended ?_ ⟨⟨_, rfl⟩, hW, hsame.mono (by decide) (by decide)⟩⟩
  show Q11g Z a1 xd xk mc h0 n0 _ T10.heap _
  exact ⟨_, yb_10, yk_10, rfl, trivial, N10, K10, p10_0, p10_1, p10_2, p10_3, p10_4, (Nat.le_trans K2.1 pp10_0), pp10_1⟩
theorem ef_12r (m : MethodId) (x0 : Addr) (x2 : Addr) (x3 : Int32) : entryFrame m #[(.ref x0), .null, (.ref x2), (.int x3)] 4 = mkF m 0 #[.val (.ref x0), .val .null, .val (.ref x2), .val (.int x3)] [] := by first | (simp [entryFrame, mkF, argsToLocals, Value.category]; done) | rfl
def Q12r (Z : State) (a1 : Addr) (xb : Addr) (p4 : Int32) (xk : ClassId) (mc : Int32) (xv : List Value) (h0 : Heap) (n0 : Nat) (v : Option Value) (h : Heap) (L : List Loc) : Prop := v = none ∧ Fr n0 L ∧ Keep h0 h [a1, xb] ∧ (Exa Z h a1 "java/util/ArrayList") ∧ (Fld Z h a1 "java/util/ArrayList" "elementData" "[Ljava/lang/Object;" (.ref xb)) ∧ (Fld Z h a1 "java/util/AbstractList" "modCount" "I" (.int mc)) ∧ (Fld Z h a1 "java/util/ArrayList" "size" "I" (.int (p4 + (1 : Int32)))) ∧ (Arv Z h xb xk (.object "java/lang/Object") (10 : Int32) (xv.set (p4).toNatClampNeg .null) .null)
set_option maxRecDepth 65536 in
set_option maxHeartbeats 40000000 in
theorem rm12r (l : Launch) (Z : State) (a0 : Array Value) (hw : ∀ d ∈ tables_1, d.before a0 Z = true) (ws : List Jvm.Cond) (a1 : Addr) (xb : Addr) (p4 : Int32) (xk : ClassId) (mc : Int32) (xv : List Value) (h0 : Heap) (n0 : Nat) (Z0 : n0 ≤ h0.size) (g_a1 : n0 ≤ a1) (g_xb : n0 ≤ xb) (ne_a1_xb : a1 ≠ xb) (P0 : Exa Z h0 a1 "java/util/ArrayList") (P1 : Fld Z h0 a1 "java/util/ArrayList" "elementData" "[Ljava/lang/Object;" (.ref xb)) (P2 : Fld Z h0 a1 "java/util/AbstractList" "modCount" "I" (.int mc)) (P3 : Fld Z h0 a1 "java/util/ArrayList" "size" "I" (.int p4)) (P4 : Arv Z h0 xb xk (.object "java/lang/Object") (10 : Int32) xv .null) (hp0 : ¬ p4 < 0) (hp1 : p4 < 10) (hl : xv.length = 10) :
    MetFree l (⟨"java/util/ArrayList", "add", "(Ljava/lang/Object;[Ljava/lang/Object;I)V"⟩ : MethodName) (head1 (Jvm.Cond.code (⟨"java/util/ArrayList", "add", "(Ljava/lang/Object;[Ljava/lang/Object;I)V"⟩ : MethodName) jdk_38_method_24_code 4 none :: ws) ({ frames := 3, cells := 1, slots := 10, locals := 41 } : Room)) (fun a U => a = #[(.ref a1), .null, (.ref xb), (.int p4)] ∧ Z.Warmed39 U.vm ∧ U.heap = h0) (fun _ _ _ _ _ => True) (fun _ U o U' => ∃ v L, o = .returned v ∧ Q12r Z a1 xb p4 xk mc xv h0 n0 v U'.heap L ∧ FrameEnd U o U' L ({ frames := 3, cells := 1, slots := 10, locals := 41 } : Room).cells ({ frames := 3, cells := 1, slots := 10, locals := 41 } : Room).slots) := by
  refine MetFree.of_bodySF (plainFor_of_name pn_12) hisR ?_
  intro p e s m args below meth c s₁ Bd hml0 hP hK
  obtain ⟨rfl, hZ, hh⟩ := hP
  have hx := Bd.exec
  have hby := Bd.bytes
  have hml : c.maxLocals = 4 := hml0
  have hown : s.vm.findClass "java/util/ArrayList" = some m.cls := findClass_of_methodNamed Bd.named
  have hnm := (name_of_methodNamed Bd.named Bd.method).1
  have X0 : Stand p l e ({ frames := 3, cells := 1, slots := 10, locals := 41 } : Room) s m #[(.ref a1), .null, (.ref xb), (.int p4)] below meth c s₁ [] 0 0 := Stand.of_body Bd
  have e0 : s₁.heap = h0 := by rw [← hh, Bd.state]; rfl
  have N0 := Fr.nil n0
  suffices G0 : ∀ K : State → Prop, (∀ (n : State) (v : Option Value) (L : List Loc), n.status = .running → Ended n below (.returned v) → Q12r Z a1 xb p4 xk mc xv h0 n0 v n.heap L → FrameEnd s (.returned v) n L ({ frames := 3, cells := 1, slots := 10, locals := 41 } : Room).cells ({ frames := 3, cells := 1, slots := 10, locals := 41 } : Room).slots → K n) → own_Go p e below K (s₁.setTop (mkF m 0 #[.val (.ref a1), .val .null, .val (.ref xb), .val (.int p4)] [])) by
    obtain ⟨t, st, o, a, b, v, L, e1, q, fe⟩ := G0 (fun n => ∃ o, n.status = .running ∧ Ended n below o ∧ ∃ v L, o = .returned v ∧ Q12r Z a1 xb p4 xk mc xv h0 n0 v n.heap L ∧ FrameEnd s o n L ({ frames := 3, cells := 1, slots := 10, locals := 41 } : Room).cells ({ frames := 3, cells := 1, slots := 10, locals := 41 } : Room).slots) (fun n v L a b q f => ⟨_, a, b, v, L, rfl, q, f⟩)
    exact ⟨t, o, castTop (ef_12r m a1 xb p4) st, a, b, v, L, e1, q, fe⟩
  intro K fin
  show own_Go p e below K (s₁.setTop (mkF m 0 #[.val (.ref a1), .val .null, .val (.ref xb), .val (.int p4)] []))
  refine own_st (fun t k => XS.iloadN X0.here hx rfl (hb hby d12_0) rfl k) ?_
  show own_Go p e below K (s₁.setTop (mkF m 1 #[.val (.ref a1), .val .null, .val (.ref xb), .val (.int p4)] [(.int p4)]))
  refine own_st (fun t k => XS.aloadN X0.here hx rfl (hb hby d12_1) rfl rfl k) ?_
  show own_Go p e below K (s₁.setTop (mkF m 2 #[.val (.ref a1), .val .null, .val (.ref xb), .val (.int p4)] [(.ref xb), (.int p4)]))
  obtain ⟨cl1, Ar1, -, Sa1, Ma1, -, -⟩ := id P4
  refine own_st (X0.arraylength hx (own_hat e0 Ar1.1) (State.isArrayOf_alike hZ.alike Ar1.2.1) (g := (mkF m 2 #[.val (.ref a1), .val .null, .val (.ref xb), .val (.int p4)] [(.ref xb), (.int p4)])) rfl rfl (hb hby d12_2)) ?_
  rw [len_of Sa1 Ma1]
  show own_Go p e below K (s₁.setTop (mkF m 3 #[.val (.ref a1), .val .null, .val (.ref xb), .val (.int p4)] [(.int (10 : Int32)), (.int p4)]))
  refine own_st (fun t k => XS.icmpYes X0.here hx rfl (pc0 := 3) (pc' := 11) rfl (hb hby d12_3) rfl (feq (own_e10 hp1 : ¬ (p4 = (10 : Int32)))).2 (by decide) (by decide) k) ?_
  show own_Go p e below K (s₁.setTop (mkF m 11 #[.val (.ref a1), .val .null, .val (.ref xb), .val (.int p4)] []))
  refine own_st (fun t k => XS.aloadN X0.here hx rfl (hb hby d12_11) rfl rfl k) ?_
  show own_Go p e below K (s₁.setTop (mkF m 12 #[.val (.ref a1), .val .null, .val (.ref xb), .val (.int p4)] [(.ref xb)]))
  refine own_st (fun t k => XS.iloadN X0.here hx rfl (hb hby d12_12) rfl k) ?_
  show own_Go p e below K (s₁.setTop (mkF m 13 #[.val (.ref a1), .val .null, .val (.ref xb), .val (.int p4)] [(.int p4), (.ref xb)]))
  refine own_st (fun t k => XS.aloadN X0.here hx rfl (hb hby d12_13) rfl rfl k) ?_
  show own_Go p e below K (s₁.setTop (mkF m 14 #[.val (.ref a1), .val .null, .val (.ref xb), .val (.int p4)] [.null, (.int p4), (.ref xb)]))
  obtain ⟨cl2, Ar2, qa2, Sa2, Ma2, Ha2, Ga2⟩ := id P4
  have hin2 : ¬ (p4 < 0 ∨ cl2.slots.size ≤ (p4).toNatClampNeg) := inb_of Sa2 ⟨hp0, hp1⟩
  obtain ⟨T3, h3, X3, e3, W3, st3⟩ := stR X0 hx hZ e0 Ar2 (j := p4) hin2 rfl (Or.inl rfl) (g := (mkF m 14 #[.val (.ref a1), .val .null, .val (.ref xb), .val (.int p4)] [.null, (.int p4), (.ref xb)])) rfl rfl (hb hby d12_14)
  have V3 : Arv Z h3 xb xk (.object "java/lang/Object") (10 : Int32) (xv.set (p4).toNatClampNeg .null) .null := Arv.set Ar2 qa2 Sa2 Ma2 Ha2 Ga2 rfl W3 _ rfl (by rw [hl]; exact own_in10 hp0 hp1)
  have f4 : Exa Z h3 a1 "java/util/ArrayList" := P0.wr W3
  have f5 : Fld Z h3 a1 "java/util/ArrayList" "elementData" "[Ljava/lang/Object;" (.ref xb) := P1.other W3 (Or.inl ne_a1_xb)
  have f6 : Fld Z h3 a1 "java/util/AbstractList" "modCount" "I" (.int mc) := P2.other W3 (Or.inl ne_a1_xb)
  have f7 : Fld Z h3 a1 "java/util/ArrayList" "size" "I" (.int p4) := P3.other W3 (Or.inl ne_a1_xb)
  have N3 := Fr.snoc X3 N0 g_xb
  have Z3 : n0 ≤ h3.size := Nat.le_trans Z0 (Keep.of_wr W3).1
  have K3 : Keep h0 h3 [a1, xb] := (Keep.refl h0 [a1, xb]).wr W3 (Or.inl (List.mem_of_getElem? (i := 1) rfl))
  refine own_st st3 ?_
  show own_Go p e below K (T3.setTop (mkF m 15 #[.val (.ref a1), .val .null, .val (.ref xb), .val (.int p4)] []))
  refine own_st (fun t k => XS.aloadN X3.here hx rfl (hb hby d12_15) rfl rfl k) ?_
  show own_Go p e below K (T3.setTop (mkF m 16 #[.val (.ref a1), .val .null, .val (.ref xb), .val (.int p4)] [(.ref a1)]))
  refine own_st (fun t k => XS.iloadN X3.here hx rfl (hb hby d12_16) rfl k) ?_
  show own_Go p e below K (T3.setTop (mkF m 17 #[.val (.ref a1), .val .null, .val (.ref xb), .val (.int p4)] [(.int p4), (.ref a1)]))
  refine own_st (fun t k => XS.iconst X3.here hx rfl (hb hby d12_17) k) ?_
  show own_Go p e below K (T3.setTop (mkF m 18 #[.val (.ref a1), .val .null, .val (.ref xb), .val (.int p4)] [(.int (1 : Int32)), (.int p4), (.ref a1)]))
  refine own_st (fun t k => XS.iadd X3.here hx rfl (hb hby d12_18) rfl k) ?_
  show own_Go p e below K (T3.setTop (mkF m 19 #[.val (.ref a1), .val .null, .val (.ref xb), .val (.int p4)] [(.int (p4 + (1 : Int32))), (.ref a1)]))
  obtain ⟨T8, h8, X8, e8, W8, st8⟩ := putF X3 hx hZ hown (host := "") (Or.inl (hw _ (List.mem_of_getElem? (i := 88) rfl))) Via.refl e3 f7 f4 (Or.inl (hw _ (List.mem_of_getElem? (i := 89) rfl))) (hw _ (List.mem_of_getElem? (i := 10) rfl)) (ty := .int) (by decide) rfl rfl (g := (mkF m 19 #[.val (.ref a1), .val .null, .val (.ref xb), .val (.int p4)] [(.int (p4 + (1 : Int32))), (.ref a1)])) rfl rfl (hb hby d12_19)
  have fw8 : Fld Z h8 a1 "java/util/ArrayList" "size" "I" (.int (p4 + (1 : Int32))) := f7.same W8
  have f9 : Exa Z h8 a1 "java/util/ArrayList" := f4.wr W8
  have f10 : Fld Z h8 a1 "java/util/ArrayList" "elementData" "[Ljava/lang/Object;" (.ref xb) := f5.other W8 (Or.inr (slot_ne (Or.inl (hw _ (List.mem_of_getElem? (i := 32) rfl))) (Or.inl (hw _ (List.mem_of_getElem? (i := 89) rfl))) (by decide) (t := (.array (.object "java/lang/Object"))) (t' := .int) (by decide) (by decide)))
  have f11 : Fld Z h8 a1 "java/util/AbstractList" "modCount" "I" (.int mc) := f6.other W8 (Or.inr (slot_ne (Or.inl (hw _ (List.mem_of_getElem? (i := 29) rfl))) (Or.inl (hw _ (List.mem_of_getElem? (i := 89) rfl))) (by decide) (t := .int) (t' := .int) (by decide) (by decide)))
  have f12 : Arv Z h8 xb xk (.object "java/lang/Object") (10 : Int32) (xv.set (p4).toNatClampNeg .null) .null := V3.other W8 (Ne.symm ne_a1_xb)
  have N8 := Fr.snoc X8 N3 g_a1
  have Z8 : n0 ≤ h8.size := Nat.le_trans Z3 (Keep.of_wr W8).1
  have K8 : Keep h0 h8 [a1, xb] := K3.wr W8 (Or.inl (List.mem_of_getElem? (i := 0) rfl))
  refine own_st st8 ?_
  show own_Go p e below K (T8.setTop (mkF m 22 #[.val (.ref a1), .val .null, .val (.ref xb), .val (.int p4)] []))
  obtain ⟨fs, hr, hrun, hended, hW, hsame⟩ := X8.leave (v := none) (fun _ => rfl)
  refine ⟨_, X8.returnOut hx Bd.returns (hb hby d12_22) hr, fin _ _ _ hrun hended ?_ ⟨⟨_, rfl⟩, hW, hsame.mono (by decide) (by decide)⟩⟩
  show Q12r Z a1 xb p4 xk mc xv h0 n0 _ T8.heap _
  rw [e8]
  exact ⟨rfl, N8, K8, f9, f10, f11, fw8, f12⟩
theorem ef_11r (m : MethodId) (x0 : Addr) : entryFrame m #[(.ref x0), .null] 2 = mkF m 0 #[.val (.ref x0), .val .null] [] := by first | (simp [entryFrame, mkF, argsToLocals, Value.category]; done) | rfl
def Q11r (Z : State) (a1 : Addr) (xb : Addr) (p4 : Int32) (xk : ClassId) (mc : Int32) (xv : List Value) (h0 : Heap) (n0 : Nat) (v : Option Value) (h : Heap) (L : List Loc) : Prop := ∃ (r : Int32), v = some (.int r) ∧ (True) ∧ Fr n0 L ∧ Keep h0 h [a1, xb] ∧ (Exa Z h a1 "java/util/ArrayList") ∧ (Fld Z h a1 "java/util/ArrayList" "elementData" "[Ljava/lang/Object;" (.ref xb)) ∧ (Fld Z h a1 "java/util/AbstractList" "modCount" "I" (.int (mc + (1 : Int32)))) ∧ (Fld Z h a1 "java/util/ArrayList" "size" "I" (.int (p4 + (1 : Int32)))) ∧ (Arv Z h xb xk (.object "java/lang/Object") (10 : Int32) (xv.set (p4).toNatClampNeg .null) .null)
set_option maxRecDepth 65536 in
set_option maxHeartbeats 40000000 in
theorem rm11r (l : Launch) (Z : State) (a0 : Array Value) (hw : ∀ d ∈ tables_1, d.before a0 Z = true) (ws : List Jvm.Cond) (a1 : Addr) (xb : Addr) (p4 : Int32) (xk : ClassId) (mc : Int32) (xv : List Value) (h0 : Heap) (n0 : Nat) (Z0 : n0 ≤ h0.size) (g_a1 : n0 ≤ a1) (g_xb : n0 ≤ xb) (ne_a1_xb : a1 ≠ xb) (P0 : Exa Z h0 a1 "java/util/ArrayList") (P1 : Fld Z h0 a1 "java/util/ArrayList" "elementData" "[Ljava/lang/Object;" (.ref xb)) (P2 : Fld Z h0 a1 "java/util/AbstractList" "modCount" "I" (.int mc)) (P3 : Fld Z h0 a1 "java/util/ArrayList" "size" "I" (.int p4)) (P4 : Arv Z h0 xb xk (.object "java/lang/Object") (10 : Int32) xv .null) (hp0 : ¬ p4 < 0) (hp1 : p4 < 10) (hl : xv.length = 10) :
    MetFree l (⟨"java/util/ArrayList", "add", "(Ljava/lang/Object;)Z"⟩ : MethodName) (head1 (Jvm.Cond.code (⟨"java/util/ArrayList", "add", "(Ljava/lang/Object;)Z"⟩ : MethodName) jdk_38_method_25_code 2 (some .boolean) :: ws) ({ frames := 4, cells := 1, slots := 10, locals := 56 } : Room)) (fun a U => a = #[(.ref a1), .null] ∧ Z.Warmed39 U.vm ∧ U.heap = h0) (fun _ _ _ _ _ => True) (fun _ U o U' => ∃ v L, o = .returned v ∧ Q11r Z a1 xb p4 xk mc xv h0 n0 v U'.heap L ∧ FrameEnd U o U' L ({ frames := 4, cells := 1, slots := 10, locals := 56 } : Room).cells ({ frames := 4, cells := 1, slots := 10, locals := 56 } : Room).slots) := by
  refine MetFree.of_bodySF (plainFor_of_name pn_11) hisR ?_
  intro p e s m args below meth c s₁ Bd hml0 hP hK
  obtain ⟨rfl, hZ, hh⟩ := hP
  have hx := Bd.exec
  have hby := Bd.bytes
  have hml : c.maxLocals = 2 := hml0
  have hown : s.vm.findClass "java/util/ArrayList" = some m.cls := findClass_of_methodNamed Bd.named
  have hnm := (name_of_methodNamed Bd.named Bd.method).1
  have X0 : Stand p l e ({ frames := 4, cells := 1, slots := 10, locals := 56 } : Room) s m #[(.ref a1), .null] below meth c s₁ [] 0 0 := Stand.of_body Bd
  have e0 : s₁.heap = h0 := by rw [← hh, Bd.state]; rfl
  have N0 := Fr.nil n0
  suffices G0 : ∀ K : State → Prop, (∀ (n : State) (v : Option Value) (L : List Loc), n.status = .running → Ended n below (.returned v) → Q11r Z a1 xb p4 xk mc xv h0 n0 v n.heap L → FrameEnd s (.returned v) n L ({ frames := 4, cells := 1, slots := 10, locals := 56 } : Room).cells ({ frames := 4, cells := 1, slots := 10, locals := 56 } : Room).slots → K n) → own_Go p e below K (s₁.setTop (mkF m 0 #[.val (.ref a1), .val .null] [])) by
    obtain ⟨t, st, o, a, b, v, L, e1, q, fe⟩ := G0 (fun n => ∃ o, n.status = .running ∧ Ended n below o ∧ ∃ v L, o = .returned v ∧ Q11r Z a1 xb p4 xk mc xv h0 n0 v n.heap L ∧ FrameEnd s o n L ({ frames := 4, cells := 1, slots := 10, locals := 56 } : Room).cells ({ frames := 4, cells := 1, slots := 10, locals := 56 } : Room).slots) (fun n v L a b q f => ⟨_, a, b, v, L, rfl, q, f⟩)
    exact ⟨t, o, castTop (ef_11r m a1) st, a, b, v, L, e1, q, fe⟩
  intro K fin
  show own_Go p e below K (s₁.setTop (mkF m 0 #[.val (.ref a1), .val .null] []))
  refine own_st (fun t k => XS.aloadN X0.here hx rfl (hb hby d11_0) rfl rfl k) ?_
  show own_Go p e below K (s₁.setTop (mkF m 1 #[.val (.ref a1), .val .null] [(.ref a1)]))
  refine own_st (fun t k => XS.dup X0.here hx rfl (hb hby d11_1) rfl rfl k) ?_
  show own_Go p e below K (s₁.setTop (mkF m 2 #[.val (.ref a1), .val .null] [(.ref a1), (.ref a1)]))
  obtain ⟨T1, X1, e1, st1⟩ := getF X0 hx hZ hown (host := "") (Or.inl (hw _ (List.mem_of_getElem? (i := 86) rfl))) (Via.of (hw _ (List.mem_of_getElem? (i := 87) rfl))) e0 P2 (g := (mkF m 2 #[.val (.ref a1), .val .null] [(.ref a1), (.ref a1)])) rfl rfl (hb hby d11_2)
  refine own_st st1 ?_
  show own_Go p e below K (T1.setTop (mkF m 5 #[.val (.ref a1), .val .null] [(.int mc), (.ref a1)]))
  refine own_st (fun t k => XS.iconst X1.here hx rfl (hb hby d11_5) k) ?_
  show own_Go p e below K (T1.setTop (mkF m 6 #[.val (.ref a1), .val .null] [(.int (1 : Int32)), (.int mc), (.ref a1)]))
  refine own_st (fun t k => XS.iadd X1.here hx rfl (hb hby d11_6) rfl k) ?_
  show own_Go p e below K (T1.setTop (mkF m 7 #[.val (.ref a1), .val .null] [(.int (mc + (1 : Int32))), (.ref a1)]))
  obtain ⟨T2, h2, X2, e2, W2, st2⟩ := putF X1 hx hZ hown (host := "") (Or.inl (hw _ (List.mem_of_getElem? (i := 86) rfl))) (Via.of (hw _ (List.mem_of_getElem? (i := 87) rfl))) e1 P2 P0 (Or.inl (hw _ (List.mem_of_getElem? (i := 29) rfl))) (hw _ (List.mem_of_getElem? (i := 10) rfl)) (ty := .int) (by decide) rfl rfl (g := (mkF m 7 #[.val (.ref a1), .val .null] [(.int (mc + (1 : Int32))), (.ref a1)])) rfl rfl (hb hby d11_7)
  have fw2 : Fld Z h2 a1 "java/util/AbstractList" "modCount" "I" (.int (mc + (1 : Int32))) := P2.same W2
  have f3 : Exa Z h2 a1 "java/util/ArrayList" := P0.wr W2
  have f4 : Fld Z h2 a1 "java/util/ArrayList" "elementData" "[Ljava/lang/Object;" (.ref xb) := P1.other W2 (Or.inr (slot_ne (Or.inl (hw _ (List.mem_of_getElem? (i := 32) rfl))) (Or.inl (hw _ (List.mem_of_getElem? (i := 29) rfl))) (by decide) (t := (.array (.object "java/lang/Object"))) (t' := .int) (by decide) (by decide)))
  have f5 : Fld Z h2 a1 "java/util/ArrayList" "size" "I" (.int p4) := P3.other W2 (Or.inr (slot_ne (Or.inl (hw _ (List.mem_of_getElem? (i := 89) rfl))) (Or.inl (hw _ (List.mem_of_getElem? (i := 29) rfl))) (by decide) (t := .int) (t' := .int) (by decide) (by decide)))
  have f6 : Arv Z h2 xb xk (.object "java/lang/Object") (10 : Int32) xv .null := P4.other W2 (Ne.symm ne_a1_xb)
  have N2 := Fr.snoc X2 N0 g_a1
  have Z2 : n0 ≤ h2.size := Nat.le_trans Z0 (Keep.of_wr W2).1
  have K2 : Keep h0 h2 [a1, xb] := (Keep.refl h0 [a1, xb]).wr W2 (Or.inl (List.mem_of_getElem? (i := 0) rfl))
  refine own_st st2 ?_
  show own_Go p e below K (T2.setTop (mkF m 10 #[.val (.ref a1), .val .null] []))
  refine own_st (fun t k => XS.aloadN X2.here hx rfl (hb hby d11_10) rfl rfl k) ?_
  show own_Go p e below K (T2.setTop (mkF m 11 #[.val (.ref a1), .val .null] [(.ref a1)]))
  refine own_st (fun t k => XS.aloadN X2.here hx rfl (hb hby d11_11) rfl rfl k) ?_
  show own_Go p e below K (T2.setTop (mkF m 12 #[.val (.ref a1), .val .null] [.null, (.ref a1)]))
  refine own_st (fun t k => XS.aloadN X2.here hx rfl (hb hby d11_12) rfl rfl k) ?_
  show own_Go p e below K (T2.setTop (mkF m 13 #[.val (.ref a1), .val .null] [(.ref a1), .null, (.ref a1)]))
  obtain ⟨T7, X7, e7, st7⟩ := getF X2 hx hZ hown (host := "") (Or.inl (hw _ (List.mem_of_getElem? (i := 31) rfl))) Via.refl e2 f4 (g := (mkF m 13 #[.val (.ref a1), .val .null] [(.ref a1), .null, (.ref a1)])) rfl rfl (hb hby d11_13)
  refine own_st st7 ?_
  show own_Go p e below K (T7.setTop (mkF m 16 #[.val (.ref a1), .val .null] [(.ref xb), .null, (.ref a1)]))
  refine own_st (fun t k => XS.aloadN X7.here hx rfl (hb hby d11_16) rfl rfl k) ?_
  show own_Go p e below K (T7.setTop (mkF m 17 #[.val (.ref a1), .val .null] [(.ref a1), (.ref xb), .null, (.ref a1)]))
  obtain ⟨T8, X8, e8, st8⟩ := getF X7 hx hZ hown (host := "") (Or.inl (hw _ (List.mem_of_getElem? (i := 88) rfl))) Via.refl e7 f5 (g := (mkF m 17 #[.val (.ref a1), .val .null] [(.ref a1), (.ref xb), .null, (.ref a1)])) rfl rfl (hb hby d11_17)
  refine own_st st8 ?_
  show own_Go p e below K (T8.setTop (mkF m 20 #[.val (.ref a1), .val .null] [(.int p4), (.ref xb), .null, (.ref a1)]))
  obtain ⟨cq9, qv9, qv9'⟩ := f3.cell
  obtain ⟨_, _, ⟨T9, L9, k9, n9⟩, -, X9, ⟨Lc9, hQ9, l9, y9, z9⟩, st9⟩ := X8.privateBack hx (y := (⟨"java/util/ArrayList", "add", "(Ljava/lang/Object;[Ljava/lang/Object;I)V"⟩ : MethodName)) hown (mvT hZ (hw _ (List.mem_of_getElem? (i := 90) rfl))) (mvT hZ (hw _ (List.mem_of_getElem? (i := 91) rfl))) (mvT hZ (hw _ (List.mem_of_getElem? (i := 93) rfl))) (Cond.privateMethod_at (mvP hZ (hw _ (List.mem_of_getElem? (i := 92) rfl)) (args := #[]))) (mvT hZ (hw _ (List.mem_of_getElem? (i := 94) rfl))) (by decide) (backOf (W := 0) (rm12r l Z a0 hw [] a1 xb p4 (xk) ((mc + (1 : Int32))) (xv) h2 n0 Z2 g_a1 g_xb ne_a1_xb f3 f4 fw2 f5 f6 hp0 hp1 hl) hZ (hw _ (List.mem_of_getElem? (i := 94) rfl)) (hw _ (List.mem_of_getElem? (i := 11) rfl)) (by decide) (by decide)) (g := (mkF m 20 #[.val (.ref a1), .val .null] [(.int p4), (.ref xb), .null, (.ref a1)])) rfl (by rw [hml]; rfl) (Steps.refl _) (a := a1) (own_hat e8 qv9) qv9' (argsL := [.null, (.ref xb), (.int p4)]) (rest := []) (lenOf pd_11_3 rfl) rfl (by show 2 * 0 + _ ≤ _; exact Nat.le_of_eq rfl) (hb hby d11_20) (fun _ _ => ⟨rfl, e8, (by decide : 0 + 1 ≤ _), (by decide : 0 + 10 ≤ _)⟩)
  dsimp only [Pt.U, Pt.locs, Pt.cells, Pt.slots] at X9 l9 y9 z9 st9 hQ9
  subst l9 y9 z9
  obtain ⟨rfl, N9q, Kq9, p9_0, p9_1, p9_2, p9_3, p9_4⟩ := hQ9
  have N9 := Fr.app N2 N9q
  have Z9 : n0 ≤ T9.heap.size := Nat.le_trans Z2 Kq9.1
  have K9 : Keep h0 T9.heap [a1, xb] := K2.trans Kq9 (allS (P := fun x => x ∈ [a1, xb] ∨ h0.size ≤ x) (Or.inl (List.mem_of_getElem? (i := 0) rfl)) (allS (P := fun x => x ∈ [a1, xb] ∨ h0.size ≤ x) (Or.inl (List.mem_of_getElem? (i := 1) rfl)) all0))
  refine own_tr st9 ?_
  show own_Go p e below K (T9.setTop (mkF m 23 #[.val (.ref a1), .val .null] []))
  refine own_st (fun t k => XS.iconst X9.here hx rfl (hb hby d11_23) k) ?_
  show own_Go p e below K (T9.setTop (mkF m 24 #[.val (.ref a1), .val .null] [(.int (1 : Int32))]))
  obtain ⟨fs, hr, hrun, hended, hW, hsame⟩ := X9.leave (v := some (.int (nar .boolean (1 : Int32)))) (fun h => by rw [Bd.returns] at h; cases h)
  refine ⟨_, retN X9 hx (t := .boolean) Bd.returns (by simp) (hb hby d11_24) hr, fin _ _ _ hrun hended ?_ ⟨⟨_, rfl⟩, hW, hsame.mono (by decide) (by decide)⟩⟩
  show Q11r Z a1 xb p4 xk mc xv h0 n0 _ T9.heap _
  exact ⟨_, rfl, trivial, N9, K9, p9_0, p9_1, p9_2, p9_3, p9_4⟩
def Q11 (Z : State) (a1 : Addr) (xd : Addr) (xk : ClassId) (n : Int32) (b : Addr) (h0 : Heap) (n0 : Nat) (v : Option Value) (h : Heap) (L : List Loc) : Prop := ∃ (r : Int32) (yb : Addr), v = some (.int r) ∧ (True) ∧ Fr n0 L ∧ Keep h0 h [a1, b] ∧ (own_L Z h a1 (n + (1 : Int32)) yb xd) ∧ (yb = b ∨ h0.size ≤ yb)
theorem rm11 (l : Launch) (Z : State) (a0 : Array Value) (hw : ∀ d ∈ tables_1, d.before a0 Z = true) (ws : List Jvm.Cond) (a1 : Addr) (xd : Addr) (xk : ClassId) (n : Int32) (b : Addr) (h0 : Heap) (n0 : Nat) (Z0 : n0 ≤ h0.size) (g_a1 : n0 ≤ a1) (g_b : n0 ≤ b) (ne_a1_xd : a1 ≠ xd) (P0 : own_L Z h0 a1 n b xd) (P1 : Arv Z h0 xd xk (.object "java/lang/Object") (0 : Int32) [] .null) (P2 : Old Z n0 h0) (SD : Sta Z Z.heap "java/util/ArrayList" "DEFAULTCAPACITY_EMPTY_ELEMENTDATA" "[Ljava/lang/Object;" (.ref xd)) (hn : 0 ≤ n.toInt ∧ n.toInt < 9) :
    MetFree l (⟨"java/util/ArrayList", "add", "(Ljava/lang/Object;)Z"⟩ : MethodName) (head1 (Jvm.Cond.code (⟨"java/util/ArrayList", "add", "(Ljava/lang/Object;)Z"⟩ : MethodName) jdk_38_method_25_code 2 (some .boolean) :: ws) ({ frames := 4, cells := 1, slots := 10, locals := 56 } : Room)) (fun a U => a = #[(.ref a1), .null] ∧ Z.Warmed39 U.vm ∧ U.heap = h0) (fun _ _ _ _ _ => True) (fun _ U o U' => ∃ v L, o = .returned v ∧ Q11 Z a1 xd xk n b h0 n0 v U'.heap L ∧ FrameEnd U o U' L ({ frames := 4, cells := 1, slots := 10, locals := 56 } : Room).cells ({ frames := 4, cells := 1, slots := 10, locals := 56 } : Room).slots) := by
  obtain ⟨e, s, ⟨mc, m⟩, r⟩ := P0
  rcases r with ⟨rfl, rfl, el⟩ | ⟨ne, el, k, vs, av, len⟩
  · refine own_weak (rm11g l Z a0 hw ws b xd xk mc h0 n0 Z0 g_a1 ne_a1_xd e el m s P1 P2 SD) ?_
    rintro a U o U' ⟨v, L, e1, ⟨r, yb, yk, e2, -, N, K, q1, q2, q3, q4, q5, q6, q7⟩, fe⟩
    exact ⟨v, L, e1, ⟨r, yb, e2, trivial, N, ⟨K.1, fun x c hx hn => K.2.1 x c hx fun z => hn (by rw [List.mem_singleton.mp z]; exact List.mem_cons_self ..), K.2.2⟩, ⟨q1, (by rw [show ((0 : Int32) + (1 : Int32)) = (1 : Int32) from by decide]; exact q4), ⟨_, q3⟩, Or.inr ⟨q7, q2, yk, _, q5, rfl⟩⟩, Or.inr q6⟩, fe⟩
  · have h9 : n.toInt < 9 := hn.2
    refine own_weak (rm11r l Z a0 hw ws a1 b n k mc vs h0 n0 Z0 g_a1 g_b ne e el m s av (own_nlt hn.1) (own_lt (by show n.toInt < 10; omega)) len) ?_
    rintro a U o U' ⟨v, L, e1, ⟨r, e2, -, N, K, q1, q2, q3, q4, q5⟩, fe⟩
    exact ⟨v, L, e1, ⟨r, b, e2, trivial, N, K, ⟨q1, q4, ⟨_, q3⟩, Or.inr ⟨ne, q2, k, _, q5, by rw [List.length_set]; exact len⟩⟩, Or.inl rfl⟩, fe⟩
theorem d17_0 : decode jdk_38_method_8_code 0 = .ok (.aload_n 0, 1) := by decide +kernel
theorem d17_1 : decode jdk_38_method_8_code 1 = .ok (.getfield 48, 3) := by decide +kernel
theorem d17_4 : decode jdk_38_method_8_code 4 = .ok (.ireturn, 1) := by decide +kernel
theorem pn_17 : plainName "java/util/ArrayList" = true := by first | (simp [plainName, overriddenIn]; done) | decide +kernel
theorem ef_17 (m : MethodId) (x0 : Addr) : entryFrame m #[(.ref x0)] 1 = mkF m 0 #[.val (.ref x0)] [] := by first | (simp [entryFrame, mkF, argsToLocals, Value.category]; done) | rfl
def Q17 (Z : State) (a1 : Addr) (u : Int32) (h0 : Heap) (n0 : Nat) (v : Option Value) (h : Heap) (L : List Loc) : Prop := ∃ (r : Int32), v = some (.int r) ∧ (r = u) ∧ Fr n0 L ∧ h = h0
set_option maxRecDepth 65536 in
set_option maxHeartbeats 40000000 in
theorem rm17 (l : Launch) (Z : State) (a0 : Array Value) (hw : ∀ d ∈ tables_1, d.before a0 Z = true) (ws : List Jvm.Cond) (a1 : Addr) (u : Int32) (h0 : Heap) (n0 : Nat) (Z0 : n0 ≤ h0.size) (P0 : Fld Z h0 a1 "java/util/ArrayList" "size" "I" (.int u)) :
    MetFree l (⟨"java/util/ArrayList", "size", "()I"⟩ : MethodName) (head1 (Jvm.Cond.code (⟨"java/util/ArrayList", "size", "()I"⟩ : MethodName) jdk_38_method_8_code 1 (some .int) :: ws) ({ frames := 0, cells := 0, slots := 0, locals := 0 } : Room)) (fun a U => a = #[(.ref a1)] ∧ Z.Warmed39 U.vm ∧ U.heap = h0) (fun _ _ _ _ _ => True) (fun _ U o U' => ∃ v L, o = .returned v ∧ Q17 Z a1 u h0 n0 v U'.heap L ∧ FrameEnd U o U' L ({ frames := 0, cells := 0, slots := 0, locals := 0 } : Room).cells ({ frames := 0, cells := 0, slots := 0, locals := 0 } : Room).slots) := by
  refine MetFree.of_bodySF (plainFor_of_name pn_17) hisR ?_
  intro p e s m args below meth c s₁ Bd hml0 hP hK
  obtain ⟨rfl, hZ, hh⟩ := hP
  have hx := Bd.exec
  have hby := Bd.bytes
  have hml : c.maxLocals = 1 := hml0
  have hown : s.vm.findClass "java/util/ArrayList" = some m.cls := findClass_of_methodNamed Bd.named
  have hnm := (name_of_methodNamed Bd.named Bd.method).1
  have X0 : Stand p l e ({ frames := 0, cells := 0, slots := 0, locals := 0 } : Room) s m #[(.ref a1)] below meth c s₁ [] 0 0 := Stand.of_body Bd
  have e0 : s₁.heap = h0 := by rw [← hh, Bd.state]; rfl
  have N0 := Fr.nil n0
  suffices G0 : ∀ K : State → Prop, (∀ (n : State) (v : Option Value) (L : List Loc), n.status = .running → Ended n below (.returned v) → Q17 Z a1 u h0 n0 v n.heap L → FrameEnd s (.returned v) n L ({ frames := 0, cells := 0, slots := 0, locals := 0 } : Room).cells ({ frames := 0, cells := 0, slots := 0, locals := 0 } : Room).slots → K n) → own_Go p e below K (s₁.setTop (mkF m 0 #[.val (.ref a1)] [])) by
    obtain ⟨t, st, o, a, b, v, L, e1, q, fe⟩ := G0 (fun n => ∃ o, n.status = .running ∧ Ended n below o ∧ ∃ v L, o = .returned v ∧ Q17 Z a1 u h0 n0 v n.heap L ∧ FrameEnd s o n L ({ frames := 0, cells := 0, slots := 0, locals := 0 } : Room).cells ({ frames := 0, cells := 0, slots := 0, locals := 0 } : Room).slots) (fun n v L a b q f => ⟨_, a, b, v, L, rfl, q, f⟩)
    exact ⟨t, o, castTop (ef_17 m a1) st, a, b, v, L, e1, q, fe⟩
  intro K fin
  show own_Go p e below K (s₁.setTop (mkF m 0 #[.val (.ref a1)] []))
  refine own_st (fun t k => XS.aloadN X0.here hx rfl (hb hby d17_0) rfl rfl k) ?_
  show own_Go p e below K (s₁.setTop (mkF m 1 #[.val (.ref a1)] [(.ref a1)]))
  obtain ⟨T1, X1, e1, st1⟩ := getF X0 hx hZ hown (host := "") (Or.inl (hw _ (List.mem_of_getElem? (i := 88) rfl))) Via.refl e0 P0 (g := (mkF m 1 #[.val (.ref a1)] [(.ref a1)])) rfl rfl (hb hby d17_1)
  refine own_st st1 ?_
  show own_Go p e below K (T1.setTop (mkF m 4 #[.val (.ref a1)] [(.int u)]))
  obtain ⟨fs, hr, hrun, hended, hW, hsame⟩ := X1.leave (v := some (.int u)) (fun h => by rw [Bd.returns] at h; cases h)
  refine ⟨_, retI X1 hx Bd.returns (hb hby d17_4) hr, fin _ _ _ hrun hended ?_ ⟨⟨_, rfl⟩, hW, hsame.mono (by decide) (by decide)⟩⟩
  show Q17 Z a1 u h0 n0 _ T1.heap _
  rw [e1]
  exact ⟨_, rfl, rfl, N0, rfl⟩
theorem d18_0 : decode prog_37_method_1_code 0 = .ok (.aload_n 0, 1) := by decide +kernel
theorem d18_1 : decode prog_37_method_1_code 1 = .ok (.invokespecial 1, 3) := by decide +kernel
theorem d18_4 : decode prog_37_method_1_code 4 = .ok (.aload_n 0, 1) := by decide +kernel
theorem d18_5 : decode prog_37_method_1_code 5 = .ok (.iload_n 1, 1) := by decide +kernel
theorem d18_6 : decode prog_37_method_1_code 6 = .ok (.putfield 7, 3) := by decide +kernel
theorem d18_9 : decode prog_37_method_1_code 9 = .ok (.aload_n 0, 1) := by decide +kernel
theorem d18_10 : decode prog_37_method_1_code 10 = .ok (.iload_n 2, 1) := by decide +kernel
theorem d18_11 : decode prog_37_method_1_code 11 = .ok (.putfield 13, 3) := by decide +kernel
theorem d18_14 : decode prog_37_method_1_code 14 = .ok (.aload_n 0, 1) := by decide +kernel
theorem d18_15 : decode prog_37_method_1_code 15 = .ok (.iload_n 3, 1) := by decide +kernel
theorem d18_16 : decode prog_37_method_1_code 16 = .ok (.putfield 16, 3) := by decide +kernel
theorem d18_19 : decode prog_37_method_1_code 19 = .ok (.aload_n 0, 1) := by decide +kernel
theorem d18_20 : decode prog_37_method_1_code 20 = .ok (.iload 4, 2) := by decide +kernel
theorem d18_22 : decode prog_37_method_1_code 22 = .ok (.putfield 19, 3) := by decide +kernel
theorem d18_25 : decode prog_37_method_1_code 25 = .ok (.aload_n 0, 1) := by decide +kernel
theorem d18_26 : decode prog_37_method_1_code 26 = .ok (.iload 5, 2) := by decide +kernel
theorem d18_28 : decode prog_37_method_1_code 28 = .ok (.putfield 22, 3) := by decide +kernel
theorem d18_31 : decode prog_37_method_1_code 31 = .ok (.return_, 1) := by decide +kernel
theorem pn_18 : plainName "com/example/coverbill/coverbill/charge/ChargeRunResult" = true := by first | (simp [plainName, overriddenIn]; done) | decide +kernel
theorem ef_18 (m : MethodId) (x0 : Addr) (x1 : Int32) (x2 : Int32) (x3 : Int32) (x4 : Int32) (x5 : Int32) : entryFrame m #[(.ref x0), (.int x1), (.int x2), (.int x3), (.int x4), (.int x5)] 6 = mkF m 0 #[.val (.ref x0), .val (.int x1), .val (.int x2), .val (.int x3), .val (.int x4), .val (.int x5)] [] := by first | (simp [entryFrame, mkF, argsToLocals, Value.category]; done) | rfl
def Q18 (Z : State) (a1 : Addr) (p2 : Int32) (p3 : Int32) (p4 : Int32) (p5 : Int32) (p6 : Int32) (h0 : Heap) (n0 : Nat) (v : Option Value) (h : Heap) (L : List Loc) : Prop := v = none ∧ Fr n0 L ∧ Keep h0 h [a1] ∧ (Exa Z h a1 "com/example/coverbill/coverbill/charge/ChargeRunResult") ∧ (Fld Z h a1 "com/example/coverbill/coverbill/charge/ChargeRunResult" "complete" "I" (.int p2)) ∧ (Fld Z h a1 "com/example/coverbill/coverbill/charge/ChargeRunResult" "error" "I" (.int p3)) ∧ (Fld Z h a1 "com/example/coverbill/coverbill/charge/ChargeRunResult" "chargesCreated" "I" (.int p4)) ∧ (Fld Z h a1 "com/example/coverbill/coverbill/charge/ChargeRunResult" "endDatesChanged" "I" (.int p5)) ∧ (Fld Z h a1 "com/example/coverbill/coverbill/charge/ChargeRunResult" "chargesCanceled" "I" (.int p6))
set_option maxRecDepth 65536 in
set_option maxHeartbeats 40000000 in
theorem rm18 (l : Launch) (Z : State) (a0 : Array Value) (hw : ∀ d ∈ tables_1, d.before a0 Z = true) (ws : List Jvm.Cond) (a1 : Addr) (p2 : Int32) (p3 : Int32) (p4 : Int32) (p5 : Int32) (p6 : Int32) (h0 : Heap) (n0 : Nat) (Z0 : n0 ≤ h0.size) (g_a1 : n0 ≤ a1) (P0 : Exa Z h0 a1 "com/example/coverbill/coverbill/charge/ChargeRunResult") (P1 : Fld Z h0 a1 "com/example/coverbill/coverbill/charge/ChargeRunResult" "complete" "I" (.int (0 : Int32))) (P2 : Fld Z h0 a1 "com/example/coverbill/coverbill/charge/ChargeRunResult" "error" "I" (.int (0 : Int32))) (P3 : Fld Z h0 a1 "com/example/coverbill/coverbill/charge/ChargeRunResult" "chargesCreated" "I" (.int (0 : Int32))) (P4 : Fld Z h0 a1 "com/example/coverbill/coverbill/charge/ChargeRunResult" "endDatesChanged" "I" (.int (0 : Int32))) (P5 : Fld Z h0 a1 "com/example/coverbill/coverbill/charge/ChargeRunResult" "chargesCanceled" "I" (.int (0 : Int32))) :
    MetFree l (⟨"com/example/coverbill/coverbill/charge/ChargeRunResult", "<init>", "(IIIII)V"⟩ : MethodName) (head1 (Jvm.Cond.code (⟨"com/example/coverbill/coverbill/charge/ChargeRunResult", "<init>", "(IIIII)V"⟩ : MethodName) prog_37_method_1_code 6 none :: ws) ({ frames := 1, cells := 0, slots := 0, locals := 12 } : Room)) (fun a U => a = #[(.ref a1), (.int p2), (.int p3), (.int p4), (.int p5), (.int p6)] ∧ Z.Warmed39 U.vm ∧ U.heap = h0) (fun _ _ _ _ _ => True) (fun _ U o U' => ∃ v L, o = .returned v ∧ Q18 Z a1 p2 p3 p4 p5 p6 h0 n0 v U'.heap L ∧ FrameEnd U o U' L ({ frames := 1, cells := 0, slots := 0, locals := 12 } : Room).cells ({ frames := 1, cells := 0, slots := 0, locals := 12 } : Room).slots) := by
  refine MetFree.of_bodySF (plainFor_of_name pn_18) hisR ?_
  intro p e s m args below meth c s₁ Bd hml0 hP hK
  obtain ⟨rfl, hZ, hh⟩ := hP
  have hx := Bd.exec
  have hby := Bd.bytes
  have hml : c.maxLocals = 6 := hml0
  have hown : s.vm.findClass "com/example/coverbill/coverbill/charge/ChargeRunResult" = some m.cls := findClass_of_methodNamed Bd.named
  have hnm := (name_of_methodNamed Bd.named Bd.method).1
  have X0 : Stand p l e ({ frames := 1, cells := 0, slots := 0, locals := 12 } : Room) s m #[(.ref a1), (.int p2), (.int p3), (.int p4), (.int p5), (.int p6)] below meth c s₁ [] 0 0 := Stand.of_body Bd
  have e0 : s₁.heap = h0 := by rw [← hh, Bd.state]; rfl
  have N0 := Fr.nil n0
  suffices G0 : ∀ K : State → Prop, (∀ (n : State) (v : Option Value) (L : List Loc), n.status = .running → Ended n below (.returned v) → Q18 Z a1 p2 p3 p4 p5 p6 h0 n0 v n.heap L → FrameEnd s (.returned v) n L ({ frames := 1, cells := 0, slots := 0, locals := 12 } : Room).cells ({ frames := 1, cells := 0, slots := 0, locals := 12 } : Room).slots → K n) → own_Go p e below K (s₁.setTop (mkF m 0 #[.val (.ref a1), .val (.int p2), .val (.int p3), .val (.int p4), .val (.int p5), .val (.int p6)] [])) by
    obtain ⟨t, st, o, a, b, v, L, e1, q, fe⟩ := G0 (fun n => ∃ o, n.status = .running ∧ Ended n below o ∧ ∃ v L, o = .returned v ∧ Q18 Z a1 p2 p3 p4 p5 p6 h0 n0 v n.heap L ∧ FrameEnd s o n L ({ frames := 1, cells := 0, slots := 0, locals := 12 } : Room).cells ({ frames := 1, cells := 0, slots := 0, locals := 12 } : Room).slots) (fun n v L a b q f => ⟨_, a, b, v, L, rfl, q, f⟩)
    exact ⟨t, o, castTop (ef_18 m a1 p2 p3 p4 p5 p6) st, a, b, v, L, e1, q, fe⟩
  intro K fin
  show own_Go p e below K (s₁.setTop (mkF m 0 #[.val (.ref a1), .val (.int p2), .val (.int p3), .val (.int p4), .val (.int p5), .val (.int p6)] []))
  refine own_st (fun t k => XS.aloadN X0.here hx rfl (hb hby d18_0) rfl rfl k) ?_
  show own_Go p e below K (s₁.setTop (mkF m 1 #[.val (.ref a1), .val (.int p2), .val (.int p3), .val (.int p4), .val (.int p5), .val (.int p6)] [(.ref a1)]))
  obtain ⟨T1, X1, e1, st1⟩ := initO X0 hx hZ hown (hw _ (List.mem_of_getElem? (i := 138) rfl)) (hw _ (List.mem_of_getElem? (i := 7) rfl)) (hw _ (List.mem_of_getElem? (i := 8) rfl)) e0 (g := (mkF m 1 #[.val (.ref a1), .val (.int p2), .val (.int p3), .val (.int p4), .val (.int p5), .val (.int p6)] [(.ref a1)])) rfl (by rw [hml]; rfl) rfl (hb hby d18_1) (by decide) (W := 0) (by show 2 * 0 + _ ≤ _; exact Nat.le_of_eq rfl) (by decide)
  refine own_st st1 ?_
  show own_Go p e below K (T1.setTop (mkF m 4 #[.val (.ref a1), .val (.int p2), .val (.int p3), .val (.int p4), .val (.int p5), .val (.int p6)] []))
  refine own_st (fun t k => XS.aloadN X1.here hx rfl (hb hby d18_4) rfl rfl k) ?_
  show own_Go p e below K (T1.setTop (mkF m 5 #[.val (.ref a1), .val (.int p2), .val (.int p3), .val (.int p4), .val (.int p5), .val (.int p6)] [(.ref a1)]))
  refine own_st (fun t k => XS.iloadN X1.here hx rfl (hb hby d18_5) rfl k) ?_
  show own_Go p e below K (T1.setTop (mkF m 6 #[.val (.ref a1), .val (.int p2), .val (.int p3), .val (.int p4), .val (.int p5), .val (.int p6)] [(.int p2), (.ref a1)]))
  obtain ⟨T2, h2, X2, e2, W2, st2⟩ := putF X1 hx hZ hown (host := "") (Or.inl (hw _ (List.mem_of_getElem? (i := 139) rfl))) Via.refl e1 P1 P0 (Or.inr ⟨(hw _ (List.mem_of_getElem? (i := 140) rfl)), rfl, hnm⟩) (hw _ (List.mem_of_getElem? (i := 117) rfl)) (ty := .int) (by decide) rfl rfl (g := (mkF m 6 #[.val (.ref a1), .val (.int p2), .val (.int p3), .val (.int p4), .val (.int p5), .val (.int p6)] [(.int p2), (.ref a1)])) rfl rfl (hb hby d18_6)
  have fw2 : Fld Z h2 a1 "com/example/coverbill/coverbill/charge/ChargeRunResult" "complete" "I" (.int p2) := P1.same W2
  have f3 : Exa Z h2 a1 "com/example/coverbill/coverbill/charge/ChargeRunResult" := P0.wr W2
  have f4 : Fld Z h2 a1 "com/example/coverbill/coverbill/charge/ChargeRunResult" "error" "I" (.int (0 : Int32)) := P2.other W2 (Or.inr (slot_ne (Or.inr (hw _ (List.mem_of_getElem? (i := 142) rfl))) (Or.inr (hw _ (List.mem_of_getElem? (i := 140) rfl))) (by decide) (t := .int) (t' := .int) (by decide) (by decide)))
  have f5 : Fld Z h2 a1 "com/example/coverbill/coverbill/charge/ChargeRunResult" "chargesCreated" "I" (.int (0 : Int32)) := P3.other W2 (Or.inr (slot_ne (Or.inr (hw _ (List.mem_of_getElem? (i := 144) rfl))) (Or.inr (hw _ (List.mem_of_getElem? (i := 140) rfl))) (by decide) (t := .int) (t' := .int) (by decide) (by decide)))
  have f6 : Fld Z h2 a1 "com/example/coverbill/coverbill/charge/ChargeRunResult" "endDatesChanged" "I" (.int (0 : Int32)) := P4.other W2 (Or.inr (slot_ne (Or.inr (hw _ (List.mem_of_getElem? (i := 146) rfl))) (Or.inr (hw _ (List.mem_of_getElem? (i := 140) rfl))) (by decide) (t := .int) (t' := .int) (by decide) (by decide)))
  have f7 : Fld Z h2 a1 "com/example/coverbill/coverbill/charge/ChargeRunResult" "chargesCanceled" "I" (.int (0 : Int32)) := P5.other W2 (Or.inr (slot_ne (Or.inr (hw _ (List.mem_of_getElem? (i := 148) rfl))) (Or.inr (hw _ (List.mem_of_getElem? (i := 140) rfl))) (by decide) (t := .int) (t' := .int) (by decide) (by decide)))
  have N2 := Fr.snoc X2 N0 g_a1
  have Z2 : n0 ≤ h2.size := Nat.le_trans Z0 (Keep.of_wr W2).1
  have K2 : Keep h0 h2 [a1] := (Keep.refl h0 [a1]).wr W2 (Or.inl (List.mem_of_getElem? (i := 0) rfl))
  refine own_st st2 ?_
  show own_Go p e below K (T2.setTop (mkF m 9 #[.val (.ref a1), .val (.int p2), .val (.int p3), .val (.int p4), .val (.int p5), .val (.int p6)] []))
  refine own_st (fun t k => XS.aloadN X2.here hx rfl (hb hby d18_9) rfl rfl k) ?_
  show own_Go p e below K (T2.setTop (mkF m 10 #[.val (.ref a1), .val (.int p2), .val (.int p3), .val (.int p4), .val (.int p5), .val (.int p6)] [(.ref a1)]))
  refine own_st (fun t k => XS.iloadN X2.here hx rfl (hb hby d18_10) rfl k) ?_
  show own_Go p e below K (T2.setTop (mkF m 11 #[.val (.ref a1), .val (.int p2), .val (.int p3), .val (.int p4), .val (.int p5), .val (.int p6)] [(.int p3), (.ref a1)]))
  obtain ⟨T8, h8, X8, e8, W8, st8⟩ := putF X2 hx hZ hown (host := "") (Or.inl (hw _ (List.mem_of_getElem? (i := 141) rfl))) Via.refl e2 f4 f3 (Or.inr ⟨(hw _ (List.mem_of_getElem? (i := 142) rfl)), rfl, hnm⟩) (hw _ (List.mem_of_getElem? (i := 117) rfl)) (ty := .int) (by decide) rfl rfl (g := (mkF m 11 #[.val (.ref a1), .val (.int p2), .val (.int p3), .val (.int p4), .val (.int p5), .val (.int p6)] [(.int p3), (.ref a1)])) rfl rfl (hb hby d18_11)
  have fw8 : Fld Z h8 a1 "com/example/coverbill/coverbill/charge/ChargeRunResult" "error" "I" (.int p3) := f4.same W8
  have f9 : Exa Z h8 a1 "com/example/coverbill/coverbill/charge/ChargeRunResult" := f3.wr W8
  have f10 : Fld Z h8 a1 "com/example/coverbill/coverbill/charge/ChargeRunResult" "complete" "I" (.int p2) := fw2.other W8 (Or.inr (slot_ne (Or.inr (hw _ (List.mem_of_getElem? (i := 140) rfl))) (Or.inr (hw _ (List.mem_of_getElem? (i := 142) rfl))) (by decide) (t := .int) (t' := .int) (by decide) (by decide)))
  have f11 : Fld Z h8 a1 "com/example/coverbill/coverbill/charge/ChargeRunResult" "chargesCreated" "I" (.int (0 : Int32)) := f5.other W8 (Or.inr (slot_ne (Or.inr (hw _ (List.mem_of_getElem? (i := 144) rfl))) (Or.inr (hw _ (List.mem_of_getElem? (i := 142) rfl))) (by decide) (t := .int) (t' := .int) (by decide) (by decide)))
  have f12 : Fld Z h8 a1 "com/example/coverbill/coverbill/charge/ChargeRunResult" "endDatesChanged" "I" (.int (0 : Int32)) := f6.other W8 (Or.inr (slot_ne (Or.inr (hw _ (List.mem_of_getElem? (i := 146) rfl))) (Or.inr (hw _ (List.mem_of_getElem? (i := 142) rfl))) (by decide) (t := .int) (t' := .int) (by decide) (by decide)))
  have f13 : Fld Z h8 a1 "com/example/coverbill/coverbill/charge/ChargeRunResult" "chargesCanceled" "I" (.int (0 : Int32)) := f7.other W8 (Or.inr (slot_ne (Or.inr (hw _ (List.mem_of_getElem? (i := 148) rfl))) (Or.inr (hw _ (List.mem_of_getElem? (i := 142) rfl))) (by decide) (t := .int) (t' := .int) (by decide) (by decide)))
  have N8 := Fr.snoc X8 N2 g_a1
  have Z8 : n0 ≤ h8.size := Nat.le_trans Z2 (Keep.of_wr W8).1
  have K8 : Keep h0 h8 [a1] := K2.wr W8 (Or.inl (List.mem_of_getElem? (i := 0) rfl))
  refine own_st st8 ?_
  show own_Go p e below K (T8.setTop (mkF m 14 #[.val (.ref a1), .val (.int p2), .val (.int p3), .val (.int p4), .val (.int p5), .val (.int p6)] []))
  refine own_st (fun t k => XS.aloadN X8.here hx rfl (hb hby d18_14) rfl rfl k) ?_
  show own_Go p e below K (T8.setTop (mkF m 15 #[.val (.ref a1), .val (.int p2), .val (.int p3), .val (.int p4), .val (.int p5), .val (.int p6)] [(.ref a1)]))
  refine own_st (fun t k => XS.iloadN X8.here hx rfl (hb hby d18_15) rfl k) ?_
  show own_Go p e below K (T8.setTop (mkF m 16 #[.val (.ref a1), .val (.int p2), .val (.int p3), .val (.int p4), .val (.int p5), .val (.int p6)] [(.int p4), (.ref a1)]))
  obtain ⟨T14, h14, X14, e14, W14, st14⟩ := putF X8 hx hZ hown (host := "") (Or.inl (hw _ (List.mem_of_getElem? (i := 143) rfl))) Via.refl e8 f11 f9 (Or.inr ⟨(hw _ (List.mem_of_getElem? (i := 144) rfl)), rfl, hnm⟩) (hw _ (List.mem_of_getElem? (i := 117) rfl)) (ty := .int) (by decide) rfl rfl (g := (mkF m 16 #[.val (.ref a1), .val (.int p2), .val (.int p3), .val (.int p4), .val (.int p5), .val (.int p6)] [(.int p4), (.ref a1)])) rfl rfl (hb hby d18_16)
  have fw14 : Fld Z h14 a1 "com/example/coverbill/coverbill/charge/ChargeRunResult" "chargesCreated" "I" (.int p4) := f11.same W14
  have f15 : Exa Z h14 a1 "com/example/coverbill/coverbill/charge/ChargeRunResult" := f9.wr W14
  have f16 : Fld Z h14 a1 "com/example/coverbill/coverbill/charge/ChargeRunResult" "complete" "I" (.int p2) := f10.other W14 (Or.inr (slot_ne (Or.inr (hw _ (List.mem_of_getElem? (i := 140) rfl))) (Or.inr (hw _ (List.mem_of_getElem? (i := 144) rfl))) (by decide) (t := .int) (t' := .int) (by decide) (by decide)))
  have f17 : Fld Z h14 a1 "com/example/coverbill/coverbill/charge/ChargeRunResult" "error" "I" (.int p3) := fw8.other W14 (Or.inr (slot_ne (Or.inr (hw _ (List.mem_of_getElem? (i := 142) rfl))) (Or.inr (hw _ (List.mem_of_getElem? (i := 144) rfl))) (by decide) (t := .int) (t' := .int) (by decide) (by decide)))
  have f18 : Fld Z h14 a1 "com/example/coverbill/coverbill/charge/ChargeRunResult" "endDatesChanged" "I" (.int (0 : Int32)) := f12.other W14 (Or.inr (slot_ne (Or.inr (hw _ (List.mem_of_getElem? (i := 146) rfl))) (Or.inr (hw _ (List.mem_of_getElem? (i := 144) rfl))) (by decide) (t := .int) (t' := .int) (by decide) (by decide)))
  have f19 : Fld Z h14 a1 "com/example/coverbill/coverbill/charge/ChargeRunResult" "chargesCanceled" "I" (.int (0 : Int32)) := f13.other W14 (Or.inr (slot_ne (Or.inr (hw _ (List.mem_of_getElem? (i := 148) rfl))) (Or.inr (hw _ (List.mem_of_getElem? (i := 144) rfl))) (by decide) (t := .int) (t' := .int) (by decide) (by decide)))
  have N14 := Fr.snoc X14 N8 g_a1
  have Z14 : n0 ≤ h14.size := Nat.le_trans Z8 (Keep.of_wr W14).1
  have K14 : Keep h0 h14 [a1] := K8.wr W14 (Or.inl (List.mem_of_getElem? (i := 0) rfl))
  refine own_st st14 ?_
  show own_Go p e below K (T14.setTop (mkF m 19 #[.val (.ref a1), .val (.int p2), .val (.int p3), .val (.int p4), .val (.int p5), .val (.int p6)] []))
  refine own_st (fun t k => XS.aloadN X14.here hx rfl (hb hby d18_19) rfl rfl k) ?_
  show own_Go p e below K (T14.setTop (mkF m 20 #[.val (.ref a1), .val (.int p2), .val (.int p3), .val (.int p4), .val (.int p5), .val (.int p6)] [(.ref a1)]))
  refine own_st (fun t k => XS.iload X14.here hx rfl (hb hby d18_20) rfl k) ?_
  show own_Go p e below K (T14.setTop (mkF m 22 #[.val (.ref a1), .val (.int p2), .val (.int p3), .val (.int p4), .val (.int p5), .val (.int p6)] [(.int p5), (.ref a1)]))
  obtain ⟨T20, h20, X20, e20, W20, st20⟩ := putF X14 hx hZ hown (host := "") (Or.inl (hw _ (List.mem_of_getElem? (i := 145) rfl))) Via.refl e14 f18 f15 (Or.inr ⟨(hw _ (List.mem_of_getElem? (i := 146) rfl)), rfl, hnm⟩) (hw _ (List.mem_of_getElem? (i := 117) rfl)) (ty := .int) (by decide) rfl rfl (g := (mkF m 22 #[.val (.ref a1), .val (.int p2), .val (.int p3), .val (.int p4), .val (.int p5), .val (.int p6)] [(.int p5), (.ref a1)])) rfl rfl (hb hby d18_22)
  have fw20 : Fld Z h20 a1 "com/example/coverbill/coverbill/charge/ChargeRunResult" "endDatesChanged" "I" (.int p5) := f18.same W20
  have f21 : Exa Z h20 a1 "com/example/coverbill/coverbill/charge/ChargeRunResult" := f15.wr W20
  have f22 : Fld Z h20 a1 "com/example/coverbill/coverbill/charge/ChargeRunResult" "complete" "I" (.int p2) := f16.other W20 (Or.inr (slot_ne (Or.inr (hw _ (List.mem_of_getElem? (i := 140) rfl))) (Or.inr (hw _ (List.mem_of_getElem? (i := 146) rfl))) (by decide) (t := .int) (t' := .int) (by decide) (by decide)))
  have f23 : Fld Z h20 a1 "com/example/coverbill/coverbill/charge/ChargeRunResult" "error" "I" (.int p3) := f17.other W20 (Or.inr (slot_ne (Or.inr (hw _ (List.mem_of_getElem? (i := 142) rfl))) (Or.inr (hw _ (List.mem_of_getElem? (i := 146) rfl))) (by decide) (t := .int) (t' := .int) (by decide) (by decide)))
  have f24 : Fld Z h20 a1 "com/example/coverbill/coverbill/charge/ChargeRunResult" "chargesCreated" "I" (.int p4) := fw14.other W20 (Or.inr (slot_ne (Or.inr (hw _ (List.mem_of_getElem? (i := 144) rfl))) (Or.inr (hw _ (List.mem_of_getElem? (i := 146) rfl))) (by decide) (t := .int) (t' := .int) (by decide) (by decide)))
  have f25 : Fld Z h20 a1 "com/example/coverbill/coverbill/charge/ChargeRunResult" "chargesCanceled" "I" (.int (0 : Int32)) := f19.other W20 (Or.inr (slot_ne (Or.inr (hw _ (List.mem_of_getElem? (i := 148) rfl))) (Or.inr (hw _ (List.mem_of_getElem? (i := 146) rfl))) (by decide) (t := .int) (t' := .int) (by decide) (by decide)))
  have N20 := Fr.snoc X20 N14 g_a1
  have Z20 : n0 ≤ h20.size := Nat.le_trans Z14 (Keep.of_wr W20).1
  have K20 : Keep h0 h20 [a1] := K14.wr W20 (Or.inl (List.mem_of_getElem? (i := 0) rfl))
  refine own_st st20 ?_
  show own_Go p e below K (T20.setTop (mkF m 25 #[.val (.ref a1), .val (.int p2), .val (.int p3), .val (.int p4), .val (.int p5), .val (.int p6)] []))
  refine own_st (fun t k => XS.aloadN X20.here hx rfl (hb hby d18_25) rfl rfl k) ?_
  show own_Go p e below K (T20.setTop (mkF m 26 #[.val (.ref a1), .val (.int p2), .val (.int p3), .val (.int p4), .val (.int p5), .val (.int p6)] [(.ref a1)]))
  refine own_st (fun t k => XS.iload X20.here hx rfl (hb hby d18_26) rfl k) ?_
  show own_Go p e below K (T20.setTop (mkF m 28 #[.val (.ref a1), .val (.int p2), .val (.int p3), .val (.int p4), .val (.int p5), .val (.int p6)] [(.int p6), (.ref a1)]))
  obtain ⟨T26, h26, X26, e26, W26, st26⟩ := putF X20 hx hZ hown (host := "") (Or.inl (hw _ (List.mem_of_getElem? (i := 147) rfl))) Via.refl e20 f25 f21 (Or.inr ⟨(hw _ (List.mem_of_getElem? (i := 148) rfl)), rfl, hnm⟩) (hw _ (List.mem_of_getElem? (i := 117) rfl)) (ty := .int) (by decide) rfl rfl (g := (mkF m 28 #[.val (.ref a1), .val (.int p2), .val (.int p3), .val (.int p4), .val (.int p5), .val (.int p6)] [(.int p6), (.ref a1)])) rfl rfl (hb hby d18_28)
  have fw26 : Fld Z h26 a1 "com/example/coverbill/coverbill/charge/ChargeRunResult" "chargesCanceled" "I" (.int p6) := f25.same W26
  have f27 : Exa Z h26 a1 "com/example/coverbill/coverbill/charge/ChargeRunResult" := f21.wr W26
  have f28 : Fld Z h26 a1 "com/example/coverbill/coverbill/charge/ChargeRunResult" "complete" "I" (.int p2) := f22.other W26 (Or.inr (slot_ne (Or.inr (hw _ (List.mem_of_getElem? (i := 140) rfl))) (Or.inr (hw _ (List.mem_of_getElem? (i := 148) rfl))) (by decide) (t := .int) (t' := .int) (by decide) (by decide)))
  have f29 : Fld Z h26 a1 "com/example/coverbill/coverbill/charge/ChargeRunResult" "error" "I" (.int p3) := f23.other W26 (Or.inr (slot_ne (Or.inr (hw _ (List.mem_of_getElem? (i := 142) rfl))) (Or.inr (hw _ (List.mem_of_getElem? (i := 148) rfl))) (by decide) (t := .int) (t' := .int) (by decide) (by decide)))
  have f30 : Fld Z h26 a1 "com/example/coverbill/coverbill/charge/ChargeRunResult" "chargesCreated" "I" (.int p4) := f24.other W26 (Or.inr (slot_ne (Or.inr (hw _ (List.mem_of_getElem? (i := 144) rfl))) (Or.inr (hw _ (List.mem_of_getElem? (i := 148) rfl))) (by decide) (t := .int) (t' := .int) (by decide) (by decide)))
  have f31 : Fld Z h26 a1 "com/example/coverbill/coverbill/charge/ChargeRunResult" "endDatesChanged" "I" (.int p5) := fw20.other W26 (Or.inr (slot_ne (Or.inr (hw _ (List.mem_of_getElem? (i := 146) rfl))) (Or.inr (hw _ (List.mem_of_getElem? (i := 148) rfl))) (by decide) (t := .int) (t' := .int) (by decide) (by decide)))
  have N26 := Fr.snoc X26 N20 g_a1
  have Z26 : n0 ≤ h26.size := Nat.le_trans Z20 (Keep.of_wr W26).1
  have K26 : Keep h0 h26 [a1] := K20.wr W26 (Or.inl (List.mem_of_getElem? (i := 0) rfl))
  refine own_st st26 ?_
  show own_Go p e below K (T26.setTop (mkF m 31 #[.val (.ref a1), .val (.int p2), .val (.int p3), .val (.int p4), .val (.int p5), .val (.int p6)] []))
  obtain ⟨fs, hr, hrun, hended, hW, hsame⟩ := X26.leave (v := none) (fun _ => rfl)
  refine ⟨_, X26.returnOut hx Bd.returns (hb hby d18_31) hr, fin _ _ _ hrun hended ?_ ⟨⟨_, rfl⟩, hW, hsame.mono (by decide) (by decide)⟩⟩
  show Q18 Z a1 p2 p3 p4 p5 p6 h0 n0 _ T26.heap _
  rw [e26]
  exact ⟨rfl, N26, K26, f27, f28, f29, f30, f31, fw26⟩
theorem d16_0 : decode prog_38_method_7_code 0 = .ok (.new 33, 3) := by decide +kernel
theorem d16_3 : decode prog_38_method_7_code 3 = .ok (.dup, 1) := by decide +kernel
theorem d16_4 : decode prog_38_method_7_code 4 = .ok (.aload_n 0, 1) := by decide +kernel
theorem d16_5 : decode prog_38_method_7_code 5 = .ok (.getfield 35, 3) := by decide +kernel
theorem d16_8 : decode prog_38_method_7_code 8 = .ok (.aload_n 0, 1) := by decide +kernel
theorem d16_9 : decode prog_38_method_7_code 9 = .ok (.getfield 38, 3) := by decide +kernel
theorem d16_12 : decode prog_38_method_7_code 12 = .ok (.aload_n 0, 1) := by decide +kernel
theorem d16_13 : decode prog_38_method_7_code 13 = .ok (.getfield 10, 3) := by decide +kernel
theorem d16_16 : decode prog_38_method_7_code 16 = .ok (.invokeinterface 41 1, 5) := by decide +kernel
theorem d16_21 : decode prog_38_method_7_code 21 = .ok (.aload_n 0, 1) := by decide +kernel
theorem d16_22 : decode prog_38_method_7_code 22 = .ok (.getfield 47, 3) := by decide +kernel
theorem d16_25 : decode prog_38_method_7_code 25 = .ok (.aload_n 0, 1) := by decide +kernel
theorem d16_26 : decode prog_38_method_7_code 26 = .ok (.getfield 50, 3) := by decide +kernel
theorem d16_29 : decode prog_38_method_7_code 29 = .ok (.invokespecial 53, 3) := by decide +kernel
theorem d16_32 : decode prog_38_method_7_code 32 = .ok (.areturn, 1) := by decide +kernel
theorem pn_16 : plainName "com/example/coverbill/coverbill/charge/PriceItemChanges" = true := by first | (simp [plainName, overriddenIn]; done) | decide +kernel
theorem pd_16_8 : parseMethodDescriptor "()I" = some ⟨[], some .int⟩ := by decide +kernel
theorem pd_16_9 : parseMethodDescriptor "(IIIII)V" = some ⟨[.int, .int, .int, .int, .int], none⟩ := by decide +kernel
theorem ef_16 (m : MethodId) (x0 : Addr) : entryFrame m #[(.ref x0)] 1 = mkF m 0 #[.val (.ref x0)] [] := by first | (simp [entryFrame, mkF, argsToLocals, Value.category]; done) | rfl
def Q16 (Z : State) (a1 : Addr) (xc : Addr) (zn : Int32) (h0 : Heap) (n0 : Nat) (v : Option Value) (h : Heap) (L : List Loc) : Prop := ∃ (r : Addr) (y : Int32), v = some (.ref r) ∧ (True) ∧ h0.size ≤ r ∧ Fr n0 L ∧ Keep h0 h [] ∧ (Exa Z h r "com/example/coverbill/coverbill/charge/ChargeRunResult") ∧ (Fld Z h r "com/example/coverbill/coverbill/charge/ChargeRunResult" "complete" "I" (.int (0 : Int32))) ∧ (Fld Z h r "com/example/coverbill/coverbill/charge/ChargeRunResult" "error" "I" (.int (0 : Int32))) ∧ (Fld Z h r "com/example/coverbill/coverbill/charge/ChargeRunResult" "chargesCreated" "I" (.int y)) ∧ (Fld Z h r "com/example/coverbill/coverbill/charge/ChargeRunResult" "endDatesChanged" "I" (.int (0 : Int32))) ∧ (Fld Z h r "com/example/coverbill/coverbill/charge/ChargeRunResult" "chargesCanceled" "I" (.int (0 : Int32))) ∧ (y = zn)
set_option maxRecDepth 65536 in
set_option maxHeartbeats 40000000 in
theorem rm16 (l : Launch) (Z : State) (a0 : Array Value) (hw : ∀ d ∈ tables_1, d.before a0 Z = true) (ws : List Jvm.Cond) (a1 : Addr) (xc : Addr) (zn : Int32) (h0 : Heap) (n0 : Nat) (Z0 : n0 ≤ h0.size) (P0 : Fld Z h0 a1 "com/example/coverbill/coverbill/charge/PriceItemChanges" "complete" "I" (.int (0 : Int32))) (P1 : Fld Z h0 a1 "com/example/coverbill/coverbill/charge/PriceItemChanges" "failed" "I" (.int (0 : Int32))) (P2 : Fld Z h0 a1 "com/example/coverbill/coverbill/charge/PriceItemChanges" "endDatesChanged" "I" (.int (0 : Int32))) (P3 : Fld Z h0 a1 "com/example/coverbill/coverbill/charge/PriceItemChanges" "canceled" "I" (.int (0 : Int32))) (P4 : Fld Z h0 a1 "com/example/coverbill/coverbill/charge/PriceItemChanges" "created" "Ljava/util/List;" (.ref xc)) (P5 : Exa Z h0 xc "java/util/ArrayList") (P6 : Fld Z h0 xc "java/util/ArrayList" "size" "I" (.int zn)) :
    MetFree l (⟨"com/example/coverbill/coverbill/charge/PriceItemChanges", "counted", "()Lcom/example/coverbill/coverbill/charge/ChargeRunResult;"⟩ : MethodName) (head1 (Jvm.Cond.code (⟨"com/example/coverbill/coverbill/charge/PriceItemChanges", "counted", "()Lcom/example/coverbill/coverbill/charge/ChargeRunResult;"⟩ : MethodName) prog_38_method_7_code 1 (some (.object "com/example/coverbill/coverbill/charge/ChargeRunResult")) :: ws) ({ frames := 2, cells := 1, slots := 5, locals := 30 } : Room)) (fun a U => a = #[(.ref a1)] ∧ Z.Warmed39 U.vm ∧ U.heap = h0) (fun _ _ _ _ _ => True) (fun _ U o U' => ∃ v L, o = .returned v ∧ Q16 Z a1 xc zn h0 n0 v U'.heap L ∧ FrameEnd U o U' L ({ frames := 2, cells := 1, slots := 5, locals := 30 } : Room).cells ({ frames := 2, cells := 1, slots := 5, locals := 30 } : Room).slots) := by
  refine MetFree.of_bodySF (plainFor_of_name pn_16) hisR ?_
  intro p e s m args below meth c s₁ Bd hml0 hP hK
  obtain ⟨rfl, hZ, hh⟩ := hP
  have hx := Bd.exec
  have hby := Bd.bytes
  have hml : c.maxLocals = 1 := hml0
  have hown : s.vm.findClass "com/example/coverbill/coverbill/charge/PriceItemChanges" = some m.cls := findClass_of_methodNamed Bd.named
  have hnm := (name_of_methodNamed Bd.named Bd.method).1
  have X0 : Stand p l e ({ frames := 2, cells := 1, slots := 5, locals := 30 } : Room) s m #[(.ref a1)] below meth c s₁ [] 0 0 := Stand.of_body Bd
  have e0 : s₁.heap = h0 := by rw [← hh, Bd.state]; rfl
  have N0 := Fr.nil n0
  suffices G0 : ∀ K : State → Prop, (∀ (n : State) (v : Option Value) (L : List Loc), n.status = .running → Ended n below (.returned v) → Q16 Z a1 xc zn h0 n0 v n.heap L → FrameEnd s (.returned v) n L ({ frames := 2, cells := 1, slots := 5, locals := 30 } : Room).cells ({ frames := 2, cells := 1, slots := 5, locals := 30 } : Room).slots → K n) → own_Go p e below K (s₁.setTop (mkF m 0 #[.val (.ref a1)] [])) by
    obtain ⟨t, st, o, a, b, v, L, e1, q, fe⟩ := G0 (fun n => ∃ o, n.status = .running ∧ Ended n below o ∧ ∃ v L, o = .returned v ∧ Q16 Z a1 xc zn h0 n0 v n.heap L ∧ FrameEnd s o n L ({ frames := 2, cells := 1, slots := 5, locals := 30 } : Room).cells ({ frames := 2, cells := 1, slots := 5, locals := 30 } : Room).slots) (fun n v L a b q f => ⟨_, a, b, v, L, rfl, q, f⟩)
    exact ⟨t, o, castTop (ef_16 m a1) st, a, b, v, L, e1, q, fe⟩
  intro K fin
  show own_Go p e below K (s₁.setTop (mkF m 0 #[.val (.ref a1)] []))
  obtain ⟨T1, h1, X1, e1, E1, A1, D1, -, st1⟩ := newO X0 hx hZ hown (hw _ (List.mem_of_getElem? (i := 116) rfl)) (hw _ (List.mem_of_getElem? (i := 117) rfl)) (hw _ (List.mem_of_getElem? (i := 118) rfl)) e0 (g := (mkF m 0 #[.val (.ref a1)] [])) rfl (hb hby d16_0) (by decide) (by decide)
  obtain ⟨b1, g1⟩ : ∃ z, z = h0.size := ⟨_, rfl⟩
  rw [← g1] at A1 D1 st1
  have ne_a1_b1 : a1 ≠ b1 := Nat.ne_of_lt (Nat.lt_of_lt_of_le P0.lt (Nat.le_of_eq g1.symm))
  have ne_xc_b1 : xc ≠ b1 := Nat.ne_of_lt (Nat.lt_of_lt_of_le P5.lt (Nat.le_of_eq g1.symm))
  have g_b1 : n0 ≤ b1 := Nat.le_trans Z0 (Nat.le_of_eq g1.symm)
  have sz_b1 : h0.size ≤ b1 := Nat.le_trans (Keep.refl h0 []).1 (Nat.le_of_eq g1.symm)
  have f2 : Fld Z h1 a1 "com/example/coverbill/coverbill/charge/PriceItemChanges" "complete" "I" (.int (0 : Int32)) := P0.ext E1
  have f3 : Fld Z h1 a1 "com/example/coverbill/coverbill/charge/PriceItemChanges" "failed" "I" (.int (0 : Int32)) := P1.ext E1
  have f4 : Fld Z h1 a1 "com/example/coverbill/coverbill/charge/PriceItemChanges" "endDatesChanged" "I" (.int (0 : Int32)) := P2.ext E1
  have f5 : Fld Z h1 a1 "com/example/coverbill/coverbill/charge/PriceItemChanges" "canceled" "I" (.int (0 : Int32)) := P3.ext E1
  have f6 : Fld Z h1 a1 "com/example/coverbill/coverbill/charge/PriceItemChanges" "created" "Ljava/util/List;" (.ref xc) := P4.ext E1
  have f7 : Exa Z h1 xc "java/util/ArrayList" := P5.ext E1
  have f8 : Fld Z h1 xc "java/util/ArrayList" "size" "I" (.int zn) := P6.ext E1
  have f9 : Fld Z h1 b1 "com/example/coverbill/coverbill/charge/ChargeRunResult" "complete" "I" (.int (0 : Int32)) := D1 (Or.inr (hw _ (List.mem_of_getElem? (i := 140) rfl))) (ty := .int) (by decide)
  have f10 : Fld Z h1 b1 "com/example/coverbill/coverbill/charge/ChargeRunResult" "error" "I" (.int (0 : Int32)) := D1 (Or.inr (hw _ (List.mem_of_getElem? (i := 142) rfl))) (ty := .int) (by decide)
  have f11 : Fld Z h1 b1 "com/example/coverbill/coverbill/charge/ChargeRunResult" "chargesCreated" "I" (.int (0 : Int32)) := D1 (Or.inr (hw _ (List.mem_of_getElem? (i := 144) rfl))) (ty := .int) (by decide)
  have f12 : Fld Z h1 b1 "com/example/coverbill/coverbill/charge/ChargeRunResult" "endDatesChanged" "I" (.int (0 : Int32)) := D1 (Or.inr (hw _ (List.mem_of_getElem? (i := 146) rfl))) (ty := .int) (by decide)
  have f13 : Fld Z h1 b1 "com/example/coverbill/coverbill/charge/ChargeRunResult" "chargesCanceled" "I" (.int (0 : Int32)) := D1 (Or.inr (hw _ (List.mem_of_getElem? (i := 148) rfl))) (ty := .int) (by decide)
  have Z1 : n0 ≤ h1.size := Nat.le_trans Z0 E1.1
  have K1 : Keep h0 h1 [] := (Keep.refl h0 []).ext E1
  refine own_st st1 ?_
  show own_Go p e below K (T1.setTop (mkF m 3 #[.val (.ref a1)] [(.ref b1)]))
  refine own_st (fun t k => XS.dup X1.here hx rfl (hb hby d16_3) rfl rfl k) ?_
  show own_Go p e below K (T1.setTop (mkF m 4 #[.val (.ref a1)] [(.ref b1), (.ref b1)]))
  refine own_st (fun t k => XS.aloadN X1.here hx rfl (hb hby d16_4) rfl rfl k) ?_
  show own_Go p e below K (T1.setTop (mkF m 5 #[.val (.ref a1)] [(.ref a1), (.ref b1), (.ref b1)]))
  obtain ⟨T14, X14, e14, st14⟩ := getF X1 hx hZ hown (host := "") (Or.inl (hw _ (List.mem_of_getElem? (i := 119) rfl))) Via.refl e1 f2 (g := (mkF m 5 #[.val (.ref a1)] [(.ref a1), (.ref b1), (.ref b1)])) rfl rfl (hb hby d16_5)
  refine own_st st14 ?_
  show own_Go p e below K (T14.setTop (mkF m 8 #[.val (.ref a1)] [(.int (0 : Int32)), (.ref b1), (.ref b1)]))
  refine own_st (fun t k => XS.aloadN X14.here hx rfl (hb hby d16_8) rfl rfl k) ?_
  show own_Go p e below K (T14.setTop (mkF m 9 #[.val (.ref a1)] [(.ref a1), (.int (0 : Int32)), (.ref b1), (.ref b1)]))
  obtain ⟨T15, X15, e15, st15⟩ := getF X14 hx hZ hown (host := "") (Or.inl (hw _ (List.mem_of_getElem? (i := 121) rfl))) Via.refl e14 f3 (g := (mkF m 9 #[.val (.ref a1)] [(.ref a1), (.int (0 : Int32)), (.ref b1), (.ref b1)])) rfl rfl (hb hby d16_9)
  refine own_st st15 ?_
  show own_Go p e below K (T15.setTop (mkF m 12 #[.val (.ref a1)] [(.int (0 : Int32)), (.int (0 : Int32)), (.ref b1), (.ref b1)]))
  refine own_st (fun t k => XS.aloadN X15.here hx rfl (hb hby d16_12) rfl rfl k) ?_
  show own_Go p e below K (T15.setTop (mkF m 13 #[.val (.ref a1)] [(.ref a1), (.int (0 : Int32)), (.int (0 : Int32)), (.ref b1), (.ref b1)]))
  obtain ⟨T16, X16, e16, st16⟩ := getF X15 hx hZ hown (host := "") (Or.inl (hw _ (List.mem_of_getElem? (i := 33) rfl))) Via.refl e15 f6 (g := (mkF m 13 #[.val (.ref a1)] [(.ref a1), (.int (0 : Int32)), (.int (0 : Int32)), (.ref b1), (.ref b1)])) rfl rfl (hb hby d16_13)
  refine own_st st16 ?_
  show own_Go p e below K (T16.setTop (mkF m 16 #[.val (.ref a1)] [(.ref xc), (.int (0 : Int32)), (.int (0 : Int32)), (.ref b1), (.ref b1)]))
  obtain ⟨cq17, kq17, qv17a, qv17b, qv17c⟩ := isOf hZ e16 f7
  obtain ⟨_, _, ⟨T17, L17, k17, n17⟩, -, X17, ⟨Lc17, hQ17, l17, y17, z17⟩, st17⟩ := X16.interfaceBack hx (xi := (⟨"java/util/List", "size", "()I"⟩ : MethodName)) (y := (⟨"java/util/ArrayList", "size", "()I"⟩ : MethodName)) hown (mvT hZ (hw _ (List.mem_of_getElem? (i := 123) rfl))) (mvT hZ (hw _ (List.mem_of_getElem? (i := 124) rfl))) (mvT hZ (hw _ (List.mem_of_getElem? (i := 125) rfl))) (mvT hZ (hw _ (List.mem_of_getElem? (i := 126) rfl))) (mvT hZ (hw _ (List.mem_of_getElem? (i := 127) rfl))) (mvT hZ (hw _ (List.mem_of_getElem? (i := 128) rfl))) (mvT hZ (hw _ (List.mem_of_getElem? (i := 129) rfl))) (mvT hZ (hw _ (List.mem_of_getElem? (i := 84) rfl))) (by decide) (backOf (W := 4) (rm17 l Z a0 hw [] xc (zn) h1 n0 Z1 f8) hZ (hw _ (List.mem_of_getElem? (i := 130) rfl)) (hw _ (List.mem_of_getElem? (i := 11) rfl)) (by decide) (by decide)) qv17a qv17b qv17c (g := (mkF m 16 #[.val (.ref a1)] [(.ref xc), (.int (0 : Int32)), (.int (0 : Int32)), (.ref b1), (.ref b1)])) rfl (by rw [hml]; rfl) (Steps.refl _) (argsL := []) (rest := [(.int (0 : Int32)), (.int (0 : Int32)), (.ref b1), (.ref b1)]) (lenOf pd_16_8 rfl) rfl (by show 2 * 0 + _ ≤ _; exact Nat.le_of_eq rfl) (hb hby d16_16) (fun _ _ => ⟨rfl, e16, (by decide : 1 + 0 ≤ _), (by decide : 5 + 0 ≤ _)⟩)
  dsimp only [Pt.U, Pt.locs, Pt.cells, Pt.slots] at X17 l17 y17 z17 st17 hQ17
  subst l17 y17 z17
  obtain ⟨r17, rfl, hr17, N17q, e17⟩ := hQ17
  have N17 := Fr.app N0 N17q
  refine own_tr st17 ?_
  show own_Go p e below K (T17.setTop (mkF m 21 #[.val (.ref a1)] [(.int r17), (.int (0 : Int32)), (.int (0 : Int32)), (.ref b1), (.ref b1)]))
  refine own_st (fun t k => XS.aloadN X17.here hx rfl (hb hby d16_21) rfl rfl k) ?_
  show own_Go p e below K (T17.setTop (mkF m 22 #[.val (.ref a1)] [(.ref a1), (.int r17), (.int (0 : Int32)), (.int (0 : Int32)), (.ref b1), (.ref b1)]))
  obtain ⟨T18, X18, e18, st18⟩ := getF X17 hx hZ hown (host := "") (Or.inl (hw _ (List.mem_of_getElem? (i := 131) rfl))) Via.refl e17 f4 (g := (mkF m 22 #[.val (.ref a1)] [(.ref a1), (.int r17), (.int (0 : Int32)), (.int (0 : Int32)), (.ref b1), (.ref b1)])) rfl rfl (hb hby d16_22)
  refine own_st st18 ?_
  show own_Go p e below K (T18.setTop (mkF m 25 #[.val (.ref a1)] [(.int (0 : Int32)), (.int r17), (.int (0 : Int32)), (.int (0 : Int32)), (.ref b1), (.ref b1)]))
  refine own_st (fun t k => XS.aloadN X18.here hx rfl (hb hby d16_25) rfl rfl k) ?_
  show own_Go p e below K (T18.setTop (mkF m 26 #[.val (.ref a1)] [(.ref a1), (.int (0 : Int32)), (.int r17), (.int (0 : Int32)), (.int (0 : Int32)), (.ref b1), (.ref b1)]))
  obtain ⟨T19, X19, e19, st19⟩ := getF X18 hx hZ hown (host := "") (Or.inl (hw _ (List.mem_of_getElem? (i := 133) rfl))) Via.refl e18 f5 (g := (mkF m 26 #[.val (.ref a1)] [(.ref a1), (.int (0 : Int32)), (.int r17), (.int (0 : Int32)), (.int (0 : Int32)), (.ref b1), (.ref b1)])) rfl rfl (hb hby d16_26)
  refine own_st st19 ?_
  show own_Go p e below K (T19.setTop (mkF m 29 #[.val (.ref a1)] [(.int (0 : Int32)), (.int (0 : Int32)), (.int r17), (.int (0 : Int32)), (.int (0 : Int32)), (.ref b1), (.ref b1)]))
  obtain ⟨_, _, ⟨T20, L20, k20, n20⟩, -, X20, ⟨Lc20, hQ20, l20, y20, z20⟩, st20⟩ := X19.specialBack hx (y := (⟨"com/example/coverbill/coverbill/charge/ChargeRunResult", "<init>", "(IIIII)V"⟩ : MethodName)) rfl hown (mvT hZ (hw _ (List.mem_of_getElem? (i := 135) rfl))) (mvT hZ (hw _ (List.mem_of_getElem? (i := 136) rfl))) (mvT hZ (hw _ (List.mem_of_getElem? (i := 137) rfl))) (by decide) (backOf (W := 1) (rm18 l Z a0 hw [] b1 (0 : Int32) (0 : Int32) r17 (0 : Int32) (0 : Int32) h1 n0 Z1 g_b1 A1 f9 f10 f11 f12 f13) hZ (hw _ (List.mem_of_getElem? (i := 137) rfl)) (hw _ (List.mem_of_getElem? (i := 118) rfl)) (by decide) (by decide)) (g := (mkF m 29 #[.val (.ref a1)] [(.int (0 : Int32)), (.int (0 : Int32)), (.int r17), (.int (0 : Int32)), (.int (0 : Int32)), (.ref b1), (.ref b1)])) rfl (by rw [hml]; rfl) (Steps.refl _) (a := b1) (argsL := [(.int (0 : Int32)), (.int (0 : Int32)), (.int r17), (.int (0 : Int32)), (.int (0 : Int32))]) (rest := [(.ref b1)]) (lenOf pd_16_9 rfl) rfl (by show 2 * 0 + _ ≤ _; exact Nat.le_of_eq rfl) (hb hby d16_29) (fun _ _ => ⟨rfl, e19, (by decide : 1 + 0 ≤ _), (by decide : 5 + 0 ≤ _)⟩)
  dsimp only [Pt.U, Pt.locs, Pt.cells, Pt.slots] at X20 l20 y20 z20 st20 hQ20
  subst l20 y20 z20
  obtain ⟨rfl, N20q, Kq20, p20_0, p20_1, p20_2, p20_3, p20_4, p20_5⟩ := hQ20
  have N20 := Fr.app N17 N20q
  have f21 : Fld Z T20.heap a1 "com/example/coverbill/coverbill/charge/PriceItemChanges" "complete" "I" (.int (0 : Int32)) := f2.keep Kq20 (ninS ne_a1_b1 nin0)
  have f22 : Fld Z T20.heap a1 "com/example/coverbill/coverbill/charge/PriceItemChanges" "failed" "I" (.int (0 : Int32)) := f3.keep Kq20 (ninS ne_a1_b1 nin0)
  have f23 : Fld Z T20.heap a1 "com/example/coverbill/coverbill/charge/PriceItemChanges" "endDatesChanged" "I" (.int (0 : Int32)) := f4.keep Kq20 (ninS ne_a1_b1 nin0)
  have f24 : Fld Z T20.heap a1 "com/example/coverbill/coverbill/charge/PriceItemChanges" "canceled" "I" (.int (0 : Int32)) := f5.keep Kq20 (ninS ne_a1_b1 nin0)
  have f25 : Fld Z T20.heap a1 "com/example/coverbill/coverbill/charge/PriceItemChanges" "created" "Ljava/util/List;" (.ref xc) := f6.keep Kq20 (ninS ne_a1_b1 nin0)
  have f26 : Exa Z T20.heap xc "java/util/ArrayList" := f7.keep Kq20
  have f27 : Fld Z T20.heap xc "java/util/ArrayList" "size" "I" (.int zn) := f8.keep Kq20 (ninS ne_xc_b1 nin0)
  have Z20 : n0 ≤ T20.heap.size := Nat.le_trans Z1 Kq20.1
  have K20 : Keep h0 T20.heap [] := K1.trans Kq20 (allS (P := fun x => x ∈ [] ∨ h0.size ≤ x) (Or.inr sz_b1) all0)
  refine own_tr st20 ?_
  show own_Go p e below K (T20.setTop (mkF m 32 #[.val (.ref a1)] [(.ref b1)]))
  obtain ⟨fs, hr, hrun, hended, hW, hsame⟩ := X20.leave (v := some (.ref b1)) (fun h => by rw [Bd.returns] at h; cases h)
  refine ⟨_, X20.areturnOut hx rfl Bd.returns rfl (hb hby d16_32) hr, fin _ _ _ hrun hended ?_ ⟨⟨_, rfl⟩, hW, hsame.mono (by decide) (by decide)⟩⟩
  show Q16 Z a1 xc zn h0 n0 _ T20.heap _
  exact ⟨_, r17, rfl, trivial, sz_b1, N20, K20, p20_0, p20_1, p20_2, p20_3, p20_4, p20_5, hr17⟩
theorem d20_0 : decode prog_37_method_3_code 0 = .ok (.aload_n 0, 1) := by decide +kernel
theorem d20_1 : decode prog_37_method_3_code 1 = .ok (.getfield 7, 3) := by decide +kernel
theorem d20_4 : decode prog_37_method_3_code 4 = .ok (.ireturn, 1) := by decide +kernel
theorem pn_20 : plainName "com/example/coverbill/coverbill/charge/ChargeRunResult" = true := by first | (simp [plainName, overriddenIn]; done) | decide +kernel
theorem ef_20 (m : MethodId) (x0 : Addr) : entryFrame m #[(.ref x0)] 1 = mkF m 0 #[.val (.ref x0)] [] := by first | (simp [entryFrame, mkF, argsToLocals, Value.category]; done) | rfl
def Q20 (Z : State) (a1 : Addr) (u : Int32) (h0 : Heap) (n0 : Nat) (v : Option Value) (h : Heap) (L : List Loc) : Prop := ∃ (r : Int32), v = some (.int r) ∧ (r = u) ∧ Fr n0 L ∧ h = h0
set_option maxRecDepth 65536 in
set_option maxHeartbeats 40000000 in
theorem rm20 (l : Launch) (Z : State) (a0 : Array Value) (hw : ∀ d ∈ tables_1, d.before a0 Z = true) (ws : List Jvm.Cond) (a1 : Addr) (u : Int32) (h0 : Heap) (n0 : Nat) (Z0 : n0 ≤ h0.size) (P0 : Fld Z h0 a1 "com/example/coverbill/coverbill/charge/ChargeRunResult" "complete" "I" (.int u)) :
    MetFree l (⟨"com/example/coverbill/coverbill/charge/ChargeRunResult", "complete", "()I"⟩ : MethodName) (head1 (Jvm.Cond.code (⟨"com/example/coverbill/coverbill/charge/ChargeRunResult", "complete", "()I"⟩ : MethodName) prog_37_method_3_code 1 (some .int) :: ws) ({ frames := 0, cells := 0, slots := 0, locals := 0 } : Room)) (fun a U => a = #[(.ref a1)] ∧ Z.Warmed39 U.vm ∧ U.heap = h0) (fun _ _ _ _ _ => True) (fun _ U o U' => ∃ v L, o = .returned v ∧ Q20 Z a1 u h0 n0 v U'.heap L ∧ FrameEnd U o U' L ({ frames := 0, cells := 0, slots := 0, locals := 0 } : Room).cells ({ frames := 0, cells := 0, slots := 0, locals := 0 } : Room).slots) := by
  refine MetFree.of_bodySF (plainFor_of_name pn_20) hisR ?_
  intro p e s m args below meth c s₁ Bd hml0 hP hK
  obtain ⟨rfl, hZ, hh⟩ := hP
  have hx := Bd.exec
  have hby := Bd.bytes
  have hml : c.maxLocals = 1 := hml0
  have hown : s.vm.findClass "com/example/coverbill/coverbill/charge/ChargeRunResult" = some m.cls := findClass_of_methodNamed Bd.named
  have hnm := (name_of_methodNamed Bd.named Bd.method).1
  have X0 : Stand p l e ({ frames := 0, cells := 0, slots := 0, locals := 0 } : Room) s m #[(.ref a1)] below meth c s₁ [] 0 0 := Stand.of_body Bd
  have e0 : s₁.heap = h0 := by rw [← hh, Bd.state]; rfl
  have N0 := Fr.nil n0
  suffices G0 : ∀ K : State → Prop, (∀ (n : State) (v : Option Value) (L : List Loc), n.status = .running → Ended n below (.returned v) → Q20 Z a1 u h0 n0 v n.heap L → FrameEnd s (.returned v) n L ({ frames := 0, cells := 0, slots := 0, locals := 0 } : Room).cells ({ frames := 0, cells := 0, slots := 0, locals := 0 } : Room).slots → K n) → own_Go p e below K (s₁.setTop (mkF m 0 #[.val (.ref a1)] [])) by
    obtain ⟨t, st, o, a, b, v, L, e1, q, fe⟩ := G0 (fun n => ∃ o, n.status = .running ∧ Ended n below o ∧ ∃ v L, o = .returned v ∧ Q20 Z a1 u h0 n0 v n.heap L ∧ FrameEnd s o n L ({ frames := 0, cells := 0, slots := 0, locals := 0 } : Room).cells ({ frames := 0, cells := 0, slots := 0, locals := 0 } : Room).slots) (fun n v L a b q f => ⟨_, a, b, v, L, rfl, q, f⟩)
    exact ⟨t, o, castTop (ef_20 m a1) st, a, b, v, L, e1, q, fe⟩
  intro K fin
  show own_Go p e below K (s₁.setTop (mkF m 0 #[.val (.ref a1)] []))
  refine own_st (fun t k => XS.aloadN X0.here hx rfl (hb hby d20_0) rfl rfl k) ?_
  show own_Go p e below K (s₁.setTop (mkF m 1 #[.val (.ref a1)] [(.ref a1)]))
  obtain ⟨T1, X1, e1, st1⟩ := getF X0 hx hZ hown (host := "") (Or.inl (hw _ (List.mem_of_getElem? (i := 139) rfl))) Via.refl e0 P0 (g := (mkF m 1 #[.val (.ref a1)] [(.ref a1)])) rfl rfl (hb hby d20_1)
  refine own_st st1 ?_
  show own_Go p e below K (T1.setTop (mkF m 4 #[.val (.ref a1)] [(.int u)]))
  obtain ⟨fs, hr, hrun, hended, hW, hsame⟩ := X1.leave (v := some (.int u)) (fun h => by rw [Bd.returns] at h; cases h)
  refine ⟨_, retI X1 hx Bd.returns (hb hby d20_4) hr, fin _ _ _ hrun hended ?_ ⟨⟨_, rfl⟩, hW, hsame.mono (by decide) (by decide)⟩⟩
  show Q20 Z a1 u h0 n0 _ T1.heap _
  rw [e1]
  exact ⟨_, rfl, rfl, N0, rfl⟩
theorem d21_0 : decode prog_37_method_4_code 0 = .ok (.aload_n 0, 1) := by decide +kernel
theorem d21_1 : decode prog_37_method_4_code 1 = .ok (.getfield 13, 3) := by decide +kernel
theorem d21_4 : decode prog_37_method_4_code 4 = .ok (.ireturn, 1) := by decide +kernel
theorem pn_21 : plainName "com/example/coverbill/coverbill/charge/ChargeRunResult" = true := by first | (simp [plainName, overriddenIn]; done) | decide +kernel
theorem ef_21 (m : MethodId) (x0 : Addr) : entryFrame m #[(.ref x0)] 1 = mkF m 0 #[.val (.ref x0)] [] := by first | (simp [entryFrame, mkF, argsToLocals, Value.category]; done) | rfl
def Q21 (Z : State) (a1 : Addr) (u : Int32) (h0 : Heap) (n0 : Nat) (v : Option Value) (h : Heap) (L : List Loc) : Prop := ∃ (r : Int32), v = some (.int r) ∧ (r = u) ∧ Fr n0 L ∧ h = h0
set_option maxRecDepth 65536 in
set_option maxHeartbeats 40000000 in
theorem rm21 (l : Launch) (Z : State) (a0 : Array Value) (hw : ∀ d ∈ tables_1, d.before a0 Z = true) (ws : List Jvm.Cond) (a1 : Addr) (u : Int32) (h0 : Heap) (n0 : Nat) (Z0 : n0 ≤ h0.size) (P0 : Fld Z h0 a1 "com/example/coverbill/coverbill/charge/ChargeRunResult" "error" "I" (.int u)) :
    MetFree l (⟨"com/example/coverbill/coverbill/charge/ChargeRunResult", "error", "()I"⟩ : MethodName) (head1 (Jvm.Cond.code (⟨"com/example/coverbill/coverbill/charge/ChargeRunResult", "error", "()I"⟩ : MethodName) prog_37_method_4_code 1 (some .int) :: ws) ({ frames := 0, cells := 0, slots := 0, locals := 0 } : Room)) (fun a U => a = #[(.ref a1)] ∧ Z.Warmed39 U.vm ∧ U.heap = h0) (fun _ _ _ _ _ => True) (fun _ U o U' => ∃ v L, o = .returned v ∧ Q21 Z a1 u h0 n0 v U'.heap L ∧ FrameEnd U o U' L ({ frames := 0, cells := 0, slots := 0, locals := 0 } : Room).cells ({ frames := 0, cells := 0, slots := 0, locals := 0 } : Room).slots) := by
  refine MetFree.of_bodySF (plainFor_of_name pn_21) hisR ?_
  intro p e s m args below meth c s₁ Bd hml0 hP hK
  obtain ⟨rfl, hZ, hh⟩ := hP
  have hx := Bd.exec
  have hby := Bd.bytes
  have hml : c.maxLocals = 1 := hml0
  have hown : s.vm.findClass "com/example/coverbill/coverbill/charge/ChargeRunResult" = some m.cls := findClass_of_methodNamed Bd.named
  have hnm := (name_of_methodNamed Bd.named Bd.method).1
  have X0 : Stand p l e ({ frames := 0, cells := 0, slots := 0, locals := 0 } : Room) s m #[(.ref a1)] below meth c s₁ [] 0 0 := Stand.of_body Bd
  have e0 : s₁.heap = h0 := by rw [← hh, Bd.state]; rfl
  have N0 := Fr.nil n0
  suffices G0 : ∀ K : State → Prop, (∀ (n : State) (v : Option Value) (L : List Loc), n.status = .running → Ended n below (.returned v) → Q21 Z a1 u h0 n0 v n.heap L → FrameEnd s (.returned v) n L ({ frames := 0, cells := 0, slots := 0, locals := 0 } : Room).cells ({ frames := 0, cells := 0, slots := 0, locals := 0 } : Room).slots → K n) → own_Go p e below K (s₁.setTop (mkF m 0 #[.val (.ref a1)] [])) by
    obtain ⟨t, st, o, a, b, v, L, e1, q, fe⟩ := G0 (fun n => ∃ o, n.status = .running ∧ Ended n below o ∧ ∃ v L, o = .returned v ∧ Q21 Z a1 u h0 n0 v n.heap L ∧ FrameEnd s o n L ({ frames := 0, cells := 0, slots := 0, locals := 0 } : Room).cells ({ frames := 0, cells := 0, slots := 0, locals := 0 } : Room).slots) (fun n v L a b q f => ⟨_, a, b, v, L, rfl, q, f⟩)
    exact ⟨t, o, castTop (ef_21 m a1) st, a, b, v, L, e1, q, fe⟩
  intro K fin
  show own_Go p e below K (s₁.setTop (mkF m 0 #[.val (.ref a1)] []))
  refine own_st (fun t k => XS.aloadN X0.here hx rfl (hb hby d21_0) rfl rfl k) ?_
  show own_Go p e below K (s₁.setTop (mkF m 1 #[.val (.ref a1)] [(.ref a1)]))
  obtain ⟨T1, X1, e1, st1⟩ := getF X0 hx hZ hown (host := "") (Or.inl (hw _ (List.mem_of_getElem? (i := 141) rfl))) Via.refl e0 P0 (g := (mkF m 1 #[.val (.ref a1)] [(.ref a1)])) rfl rfl (hb hby d21_1)
  refine own_st st1 ?_
  show own_Go p e below K (T1.setTop (mkF m 4 #[.val (.ref a1)] [(.int u)]))
  obtain ⟨fs, hr, hrun, hended, hW, hsame⟩ := X1.leave (v := some (.int u)) (fun h => by rw [Bd.returns] at h; cases h)
  refine ⟨_, retI X1 hx Bd.returns (hb hby d21_4) hr, fin _ _ _ hrun hended ?_ ⟨⟨_, rfl⟩, hW, hsame.mono (by decide) (by decide)⟩⟩
  show Q21 Z a1 u h0 n0 _ T1.heap _
  rw [e1]
  exact ⟨_, rfl, rfl, N0, rfl⟩
theorem d19_0 : decode prog_37_method_5_code 0 = .ok (.aload_n 0, 1) := by decide +kernel
theorem d19_1 : decode prog_37_method_5_code 1 = .ok (.getfield 16, 3) := by decide +kernel
theorem d19_4 : decode prog_37_method_5_code 4 = .ok (.ireturn, 1) := by decide +kernel
theorem pn_19 : plainName "com/example/coverbill/coverbill/charge/ChargeRunResult" = true := by first | (simp [plainName, overriddenIn]; done) | decide +kernel
theorem ef_19 (m : MethodId) (x0 : Addr) : entryFrame m #[(.ref x0)] 1 = mkF m 0 #[.val (.ref x0)] [] := by first | (simp [entryFrame, mkF, argsToLocals, Value.category]; done) | rfl
def Q19 (Z : State) (a1 : Addr) (u : Int32) (h0 : Heap) (n0 : Nat) (v : Option Value) (h : Heap) (L : List Loc) : Prop := ∃ (r : Int32), v = some (.int r) ∧ (r = u) ∧ Fr n0 L ∧ h = h0
set_option maxRecDepth 65536 in
set_option maxHeartbeats 40000000 in
theorem rm19 (l : Launch) (Z : State) (a0 : Array Value) (hw : ∀ d ∈ tables_1, d.before a0 Z = true) (ws : List Jvm.Cond) (a1 : Addr) (u : Int32) (h0 : Heap) (n0 : Nat) (Z0 : n0 ≤ h0.size) (P0 : Fld Z h0 a1 "com/example/coverbill/coverbill/charge/ChargeRunResult" "chargesCreated" "I" (.int u)) :
    MetFree l (⟨"com/example/coverbill/coverbill/charge/ChargeRunResult", "chargesCreated", "()I"⟩ : MethodName) (head1 (Jvm.Cond.code (⟨"com/example/coverbill/coverbill/charge/ChargeRunResult", "chargesCreated", "()I"⟩ : MethodName) prog_37_method_5_code 1 (some .int) :: ws) ({ frames := 0, cells := 0, slots := 0, locals := 0 } : Room)) (fun a U => a = #[(.ref a1)] ∧ Z.Warmed39 U.vm ∧ U.heap = h0) (fun _ _ _ _ _ => True) (fun _ U o U' => ∃ v L, o = .returned v ∧ Q19 Z a1 u h0 n0 v U'.heap L ∧ FrameEnd U o U' L ({ frames := 0, cells := 0, slots := 0, locals := 0 } : Room).cells ({ frames := 0, cells := 0, slots := 0, locals := 0 } : Room).slots) := by
  refine MetFree.of_bodySF (plainFor_of_name pn_19) hisR ?_
  intro p e s m args below meth c s₁ Bd hml0 hP hK
  obtain ⟨rfl, hZ, hh⟩ := hP
  have hx := Bd.exec
  have hby := Bd.bytes
  have hml : c.maxLocals = 1 := hml0
  have hown : s.vm.findClass "com/example/coverbill/coverbill/charge/ChargeRunResult" = some m.cls := findClass_of_methodNamed Bd.named
  have hnm := (name_of_methodNamed Bd.named Bd.method).1
  have X0 : Stand p l e ({ frames := 0, cells := 0, slots := 0, locals := 0 } : Room) s m #[(.ref a1)] below meth c s₁ [] 0 0 := Stand.of_body Bd
  have e0 : s₁.heap = h0 := by rw [← hh, Bd.state]; rfl
  have N0 := Fr.nil n0
  suffices G0 : ∀ K : State → Prop, (∀ (n : State) (v : Option Value) (L : List Loc), n.status = .running → Ended n below (.returned v) → Q19 Z a1 u h0 n0 v n.heap L → FrameEnd s (.returned v) n L ({ frames := 0, cells := 0, slots := 0, locals := 0 } : Room).cells ({ frames := 0, cells := 0, slots := 0, locals := 0 } : Room).slots → K n) → own_Go p e below K (s₁.setTop (mkF m 0 #[.val (.ref a1)] [])) by
    obtain ⟨t, st, o, a, b, v, L, e1, q, fe⟩ := G0 (fun n => ∃ o, n.status = .running ∧ Ended n below o ∧ ∃ v L, o = .returned v ∧ Q19 Z a1 u h0 n0 v n.heap L ∧ FrameEnd s o n L ({ frames := 0, cells := 0, slots := 0, locals := 0 } : Room).cells ({ frames := 0, cells := 0, slots := 0, locals := 0 } : Room).slots) (fun n v L a b q f => ⟨_, a, b, v, L, rfl, q, f⟩)
    exact ⟨t, o, castTop (ef_19 m a1) st, a, b, v, L, e1, q, fe⟩
  intro K fin
  show own_Go p e below K (s₁.setTop (mkF m 0 #[.val (.ref a1)] []))
  refine own_st (fun t k => XS.aloadN X0.here hx rfl (hb hby d19_0) rfl rfl k) ?_
  show own_Go p e below K (s₁.setTop (mkF m 1 #[.val (.ref a1)] [(.ref a1)]))
  obtain ⟨T1, X1, e1, st1⟩ := getF X0 hx hZ hown (host := "") (Or.inl (hw _ (List.mem_of_getElem? (i := 143) rfl))) Via.refl e0 P0 (g := (mkF m 1 #[.val (.ref a1)] [(.ref a1)])) rfl rfl (hb hby d19_1)
  refine own_st st1 ?_
  show own_Go p e below K (T1.setTop (mkF m 4 #[.val (.ref a1)] [(.int u)]))
  obtain ⟨fs, hr, hrun, hended, hW, hsame⟩ := X1.leave (v := some (.int u)) (fun h => by rw [Bd.returns] at h; cases h)
  refine ⟨_, retI X1 hx Bd.returns (hb hby d19_4) hr, fin _ _ _ hrun hended ?_ ⟨⟨_, rfl⟩, hW, hsame.mono (by decide) (by decide)⟩⟩
  show Q19 Z a1 u h0 n0 _ T1.heap _
  rw [e1]
  exact ⟨_, rfl, rfl, N0, rfl⟩
theorem d22_0 : decode prog_37_method_6_code 0 = .ok (.aload_n 0, 1) := by decide +kernel
theorem d22_1 : decode prog_37_method_6_code 1 = .ok (.getfield 19, 3) := by decide +kernel
theorem d22_4 : decode prog_37_method_6_code 4 = .ok (.ireturn, 1) := by decide +kernel
theorem pn_22 : plainName "com/example/coverbill/coverbill/charge/ChargeRunResult" = true := by first | (simp [plainName, overriddenIn]; done) | decide +kernel
theorem ef_22 (m : MethodId) (x0 : Addr) : entryFrame m #[(.ref x0)] 1 = mkF m 0 #[.val (.ref x0)] [] := by first | (simp [entryFrame, mkF, argsToLocals, Value.category]; done) | rfl
def Q22 (Z : State) (a1 : Addr) (u : Int32) (h0 : Heap) (n0 : Nat) (v : Option Value) (h : Heap) (L : List Loc) : Prop := ∃ (r : Int32), v = some (.int r) ∧ (r = u) ∧ Fr n0 L ∧ h = h0
set_option maxRecDepth 65536 in
set_option maxHeartbeats 40000000 in
theorem rm22 (l : Launch) (Z : State) (a0 : Array Value) (hw : ∀ d ∈ tables_1, d.before a0 Z = true) (ws : List Jvm.Cond) (a1 : Addr) (u : Int32) (h0 : Heap) (n0 : Nat) (Z0 : n0 ≤ h0.size) (P0 : Fld Z h0 a1 "com/example/coverbill/coverbill/charge/ChargeRunResult" "endDatesChanged" "I" (.int u)) :
    MetFree l (⟨"com/example/coverbill/coverbill/charge/ChargeRunResult", "endDatesChanged", "()I"⟩ : MethodName) (head1 (Jvm.Cond.code (⟨"com/example/coverbill/coverbill/charge/ChargeRunResult", "endDatesChanged", "()I"⟩ : MethodName) prog_37_method_6_code 1 (some .int) :: ws) ({ frames := 0, cells := 0, slots := 0, locals := 0 } : Room)) (fun a U => a = #[(.ref a1)] ∧ Z.Warmed39 U.vm ∧ U.heap = h0) (fun _ _ _ _ _ => True) (fun _ U o U' => ∃ v L, o = .returned v ∧ Q22 Z a1 u h0 n0 v U'.heap L ∧ FrameEnd U o U' L ({ frames := 0, cells := 0, slots := 0, locals := 0 } : Room).cells ({ frames := 0, cells := 0, slots := 0, locals := 0 } : Room).slots) := by
  refine MetFree.of_bodySF (plainFor_of_name pn_22) hisR ?_
  intro p e s m args below meth c s₁ Bd hml0 hP hK
  obtain ⟨rfl, hZ, hh⟩ := hP
  have hx := Bd.exec
  have hby := Bd.bytes
  have hml : c.maxLocals = 1 := hml0
  have hown : s.vm.findClass "com/example/coverbill/coverbill/charge/ChargeRunResult" = some m.cls := findClass_of_methodNamed Bd.named
  have hnm := (name_of_methodNamed Bd.named Bd.method).1
  have X0 : Stand p l e ({ frames := 0, cells := 0, slots := 0, locals := 0 } : Room) s m #[(.ref a1)] below meth c s₁ [] 0 0 := Stand.of_body Bd
  have e0 : s₁.heap = h0 := by rw [← hh, Bd.state]; rfl
  have N0 := Fr.nil n0
  suffices G0 : ∀ K : State → Prop, (∀ (n : State) (v : Option Value) (L : List Loc), n.status = .running → Ended n below (.returned v) → Q22 Z a1 u h0 n0 v n.heap L → FrameEnd s (.returned v) n L ({ frames := 0, cells := 0, slots := 0, locals := 0 } : Room).cells ({ frames := 0, cells := 0, slots := 0, locals := 0 } : Room).slots → K n) → own_Go p e below K (s₁.setTop (mkF m 0 #[.val (.ref a1)] [])) by
    obtain ⟨t, st, o, a, b, v, L, e1, q, fe⟩ := G0 (fun n => ∃ o, n.status = .running ∧ Ended n below o ∧ ∃ v L, o = .returned v ∧ Q22 Z a1 u h0 n0 v n.heap L ∧ FrameEnd s o n L ({ frames := 0, cells := 0, slots := 0, locals := 0 } : Room).cells ({ frames := 0, cells := 0, slots := 0, locals := 0 } : Room).slots) (fun n v L a b q f => ⟨_, a, b, v, L, rfl, q, f⟩)
    exact ⟨t, o, castTop (ef_22 m a1) st, a, b, v, L, e1, q, fe⟩
  intro K fin
  show own_Go p e below K (s₁.setTop (mkF m 0 #[.val (.ref a1)] []))
  refine own_st (fun t k => XS.aloadN X0.here hx rfl (hb hby d22_0) rfl rfl k) ?_
  show own_Go p e below K (s₁.setTop (mkF m 1 #[.val (.ref a1)] [(.ref a1)]))
  obtain ⟨T1, X1, e1, st1⟩ := getF X0 hx hZ hown (host := "") (Or.inl (hw _ (List.mem_of_getElem? (i := 145) rfl))) Via.refl e0 P0 (g := (mkF m 1 #[.val (.ref a1)] [(.ref a1)])) rfl rfl (hb hby d22_1)
  refine own_st st1 ?_
  show own_Go p e below K (T1.setTop (mkF m 4 #[.val (.ref a1)] [(.int u)]))
  obtain ⟨fs, hr, hrun, hended, hW, hsame⟩ := X1.leave (v := some (.int u)) (fun h => by rw [Bd.returns] at h; cases h)
  refine ⟨_, retI X1 hx Bd.returns (hb hby d22_4) hr, fin _ _ _ hrun hended ?_ ⟨⟨_, rfl⟩, hW, hsame.mono (by decide) (by decide)⟩⟩
  show Q22 Z a1 u h0 n0 _ T1.heap _
  rw [e1]
  exact ⟨_, rfl, rfl, N0, rfl⟩
theorem d23_0 : decode prog_37_method_7_code 0 = .ok (.aload_n 0, 1) := by decide +kernel
theorem d23_1 : decode prog_37_method_7_code 1 = .ok (.getfield 22, 3) := by decide +kernel
theorem d23_4 : decode prog_37_method_7_code 4 = .ok (.ireturn, 1) := by decide +kernel
theorem pn_23 : plainName "com/example/coverbill/coverbill/charge/ChargeRunResult" = true := by first | (simp [plainName, overriddenIn]; done) | decide +kernel
theorem ef_23 (m : MethodId) (x0 : Addr) : entryFrame m #[(.ref x0)] 1 = mkF m 0 #[.val (.ref x0)] [] := by first | (simp [entryFrame, mkF, argsToLocals, Value.category]; done) | rfl
def Q23 (Z : State) (a1 : Addr) (u : Int32) (h0 : Heap) (n0 : Nat) (v : Option Value) (h : Heap) (L : List Loc) : Prop := ∃ (r : Int32), v = some (.int r) ∧ (r = u) ∧ Fr n0 L ∧ h = h0
set_option maxRecDepth 65536 in
set_option maxHeartbeats 40000000 in
theorem rm23 (l : Launch) (Z : State) (a0 : Array Value) (hw : ∀ d ∈ tables_1, d.before a0 Z = true) (ws : List Jvm.Cond) (a1 : Addr) (u : Int32) (h0 : Heap) (n0 : Nat) (Z0 : n0 ≤ h0.size) (P0 : Fld Z h0 a1 "com/example/coverbill/coverbill/charge/ChargeRunResult" "chargesCanceled" "I" (.int u)) :
    MetFree l (⟨"com/example/coverbill/coverbill/charge/ChargeRunResult", "chargesCanceled", "()I"⟩ : MethodName) (head1 (Jvm.Cond.code (⟨"com/example/coverbill/coverbill/charge/ChargeRunResult", "chargesCanceled", "()I"⟩ : MethodName) prog_37_method_7_code 1 (some .int) :: ws) ({ frames := 0, cells := 0, slots := 0, locals := 0 } : Room)) (fun a U => a = #[(.ref a1)] ∧ Z.Warmed39 U.vm ∧ U.heap = h0) (fun _ _ _ _ _ => True) (fun _ U o U' => ∃ v L, o = .returned v ∧ Q23 Z a1 u h0 n0 v U'.heap L ∧ FrameEnd U o U' L ({ frames := 0, cells := 0, slots := 0, locals := 0 } : Room).cells ({ frames := 0, cells := 0, slots := 0, locals := 0 } : Room).slots) := by
  refine MetFree.of_bodySF (plainFor_of_name pn_23) hisR ?_
  intro p e s m args below meth c s₁ Bd hml0 hP hK
  obtain ⟨rfl, hZ, hh⟩ := hP
  have hx := Bd.exec
  have hby := Bd.bytes
  have hml : c.maxLocals = 1 := hml0
  have hown : s.vm.findClass "com/example/coverbill/coverbill/charge/ChargeRunResult" = some m.cls := findClass_of_methodNamed Bd.named
  have hnm := (name_of_methodNamed Bd.named Bd.method).1
  have X0 : Stand p l e ({ frames := 0, cells := 0, slots := 0, locals := 0 } : Room) s m #[(.ref a1)] below meth c s₁ [] 0 0 := Stand.of_body Bd
  have e0 : s₁.heap = h0 := by rw [← hh, Bd.state]; rfl
  have N0 := Fr.nil n0
  suffices G0 : ∀ K : State → Prop, (∀ (n : State) (v : Option Value) (L : List Loc), n.status = .running → Ended n below (.returned v) → Q23 Z a1 u h0 n0 v n.heap L → FrameEnd s (.returned v) n L ({ frames := 0, cells := 0, slots := 0, locals := 0 } : Room).cells ({ frames := 0, cells := 0, slots := 0, locals := 0 } : Room).slots → K n) → own_Go p e below K (s₁.setTop (mkF m 0 #[.val (.ref a1)] [])) by
    obtain ⟨t, st, o, a, b, v, L, e1, q, fe⟩ := G0 (fun n => ∃ o, n.status = .running ∧ Ended n below o ∧ ∃ v L, o = .returned v ∧ Q23 Z a1 u h0 n0 v n.heap L ∧ FrameEnd s o n L ({ frames := 0, cells := 0, slots := 0, locals := 0 } : Room).cells ({ frames := 0, cells := 0, slots := 0, locals := 0 } : Room).slots) (fun n v L a b q f => ⟨_, a, b, v, L, rfl, q, f⟩)
    exact ⟨t, o, castTop (ef_23 m a1) st, a, b, v, L, e1, q, fe⟩
  intro K fin
  show own_Go p e below K (s₁.setTop (mkF m 0 #[.val (.ref a1)] []))
  refine own_st (fun t k => XS.aloadN X0.here hx rfl (hb hby d23_0) rfl rfl k) ?_
  show own_Go p e below K (s₁.setTop (mkF m 1 #[.val (.ref a1)] [(.ref a1)]))
  obtain ⟨T1, X1, e1, st1⟩ := getF X0 hx hZ hown (host := "") (Or.inl (hw _ (List.mem_of_getElem? (i := 147) rfl))) Via.refl e0 P0 (g := (mkF m 1 #[.val (.ref a1)] [(.ref a1)])) rfl rfl (hb hby d23_1)
  refine own_st st1 ?_
  show own_Go p e below K (T1.setTop (mkF m 4 #[.val (.ref a1)] [(.int u)]))
  obtain ⟨fs, hr, hrun, hended, hW, hsame⟩ := X1.leave (v := some (.int u)) (fun h => by rw [Bd.returns] at h; cases h)
  refine ⟨_, retI X1 hx Bd.returns (hb hby d23_4) hr, fin _ _ _ hrun hended ?_ ⟨⟨_, rfl⟩, hW, hsame.mono (by decide) (by decide)⟩⟩
  show Q23 Z a1 u h0 n0 _ T1.heap _
  rw [e1]
  exact ⟨_, rfl, rfl, N0, rfl⟩
theorem pn_0 : plainName "com/example/coverbill/coverbill/charge/PriceItemChangesCountedPinLaw" = true := by first | (simp [plainName, overriddenIn]; done) | decide +kernel
theorem pd_0_0 : parseMethodDescriptor "()V" = some ⟨[], none⟩ := by decide +kernel
theorem pd_0_1 : parseMethodDescriptor "()Ljava/util/List;" = some ⟨[], some (.object "java/util/List")⟩ := by decide +kernel
theorem pd_0_2 : parseMethodDescriptor "(Ljava/lang/Object;)Z" = some ⟨[(.object "java/lang/Object")], some .boolean⟩ := by decide +kernel
theorem pd_0_7 : parseMethodDescriptor "()Lcom/example/coverbill/coverbill/charge/ChargeRunResult;" = some ⟨[], some (.object "com/example/coverbill/coverbill/charge/ChargeRunResult")⟩ := by decide +kernel
theorem pd_0_8 : parseMethodDescriptor "()I" = some ⟨[], some .int⟩ := by decide +kernel
theorem ef_0 (m : MethodId) (x0 : Int32) (x1 : Int32) : entryFrame m #[(.int x0), (.int x1)] maxLocals = mkF m 0 #[.val (.int x0), .val (.int x1), .unset, .unset, .unset, .unset, .unset, .unset, .unset, .unset] [] := by first | (simp [entryFrame, mkF, argsToLocals, Value.category, maxLocals]; done) | rfl
def Q0 (Z : State) (p1 : Int32) (p2 : Int32) (xd : Addr) (xk : ClassId) (h0 : Heap) (n0 : Nat) (v : Option Value) (h : Heap) (L : List Loc) : Prop := v = some (.int 1) ∧ Fr n0 L
set_option maxRecDepth 65536 in
set_option maxHeartbeats 40000000 in
theorem rm0 (l : Launch) (Z : State) (a0 : Array Value) (hw : ∀ d ∈ tables_1, d.before a0 Z = true) (ws : List Jvm.Cond) (p1 : Int32) (p2 : Int32) (xd : Addr) (xk : ClassId) (h0 : Heap) (n0 : Nat) (Z0 : n0 ≤ h0.size) (P0 : Arv Z h0 xd xk (.object "java/lang/Object") (0 : Int32) [] .null) (P1 : Old Z n0 h0) (SD : Sta Z Z.heap "java/util/ArrayList" "DEFAULTCAPACITY_EMPTY_ELEMENTDATA" "[Ljava/lang/Object;" (.ref xd)) :
    MetFree l x (head1 (Jvm.Cond.code x code maxLocals ret :: ws) room_1) (fun a U => a = #[(.int p1), (.int p2)] ∧ Z.Warmed39 U.vm ∧ U.heap = h0) (fun _ _ _ _ _ => True) (fun _ U o U' => ∃ v L, o = .returned v ∧ Q0 Z p1 p2 xd xk h0 n0 v U'.heap L ∧ FrameEnd U o U' L 14 110) := by
  refine MetFree.of_bodySF (plainFor_of_name pn_0) hisR ?_
  intro p e s m args below meth c s₁ Bd hml0 hP hK
  obtain ⟨rfl, hZ, hh⟩ := hP
  have hx := Bd.exec
  have hby := Bd.bytes
  have hml : c.maxLocals = 10 := hml0
  have hown : s.vm.findClass "com/example/coverbill/coverbill/charge/PriceItemChangesCountedPinLaw" = some m.cls := findClass_of_methodNamed Bd.named
  have hnm := (name_of_methodNamed Bd.named Bd.method).1
  have X0 : Stand p l e room_1 s m #[(.int p1), (.int p2)] below meth c s₁ [] 0 0 := Stand.of_body Bd
  have e0 : s₁.heap = h0 := by rw [← hh, Bd.state]; rfl
  have N0 := Fr.nil n0
  suffices G0 : ∀ K : State → Prop, (∀ (n : State) (v : Option Value) (L : List Loc), n.status = .running → Ended n below (.returned v) → Q0 Z p1 p2 xd xk h0 n0 v n.heap L → FrameEnd s (.returned v) n L 14 110 → K n) → own_Go p e below K (s₁.setTop (mkF m 0 #[.val (.int p1), .val (.int p2), .unset, .unset, .unset, .unset, .unset, .unset, .unset, .unset] [])) by
    obtain ⟨t, st, o, a, b, v, L, e1, q, fe⟩ := G0 (fun n => ∃ o, n.status = .running ∧ Ended n below o ∧ ∃ v L, o = .returned v ∧ Q0 Z p1 p2 xd xk h0 n0 v n.heap L ∧ FrameEnd s o n L 14 110) (fun n v L a b q f => ⟨_, a, b, v, L, rfl, q, f⟩)
    exact ⟨t, o, castTop (ef_0 m p1 p2) st, a, b, v, L, e1, q, fe⟩
  intro K fin
  show own_Go p e below K (s₁.setTop (mkF m 0 #[.val (.int p1), .val (.int p2), .unset, .unset, .unset, .unset, .unset, .unset, .unset, .unset] []))
  refine own_st (fun t k => XS.iloadN X0.here hx rfl (hb hby at_0) rfl k) ?_
  show own_Go p e below K (s₁.setTop (mkF m 1 #[.val (.int p1), .val (.int p2), .unset, .unset, .unset, .unset, .unset, .unset, .unset, .unset] [(.int p1)]))
  refine own_st (fun t k => XS.iconst X0.here hx rfl (hb hby at_1) k) ?_
  show own_Go p e below K (s₁.setTop (mkF m 2 #[.val (.int p1), .val (.int p2), .unset, .unset, .unset, .unset, .unset, .unset, .unset, .unset] [(.int (3 : Int32)), (.int p1)]))
  refine own_st (fun t k => XS.iand X0.here hx rfl (hb hby at_2) rfl k) ?_
  show own_Go p e below K (s₁.setTop (mkF m 3 #[.val (.int p1), .val (.int p2), .unset, .unset, .unset, .unset, .unset, .unset, .unset, .unset] [(.int (p1 &&& (3 : Int32)))]))
  generalize hnc : (p1 &&& (3 : Int32)) = nc
  show own_Go p e below K (s₁.setTop (mkF m 3 #[.val (.int p1), .val (.int p2), .unset, .unset, .unset, .unset, .unset, .unset, .unset, .unset] [(.int nc)]))
  have Bn := own_n3 hnc
  refine own_st (fun t k => XS.istoreN X0.here hx rfl (hb hby at_3) rfl (l' := #[.val (.int p1), .val (.int p2), .val (.int nc), .unset, .unset, .unset, .unset, .unset, .unset, .unset]) rfl k) ?_
  show own_Go p e below K (s₁.setTop (mkF m 4 #[.val (.int p1), .val (.int p2), .val (.int nc), .unset, .unset, .unset, .unset, .unset, .unset, .unset] []))
  refine own_st (fun t k => XS.iloadN X0.here hx rfl (hb hby at_4) rfl k) ?_
  show own_Go p e below K (s₁.setTop (mkF m 5 #[.val (.int p1), .val (.int p2), .val (.int nc), .unset, .unset, .unset, .unset, .unset, .unset, .unset] [(.int p2)]))
  refine own_st (fun t k => XS.iconst X0.here hx rfl (hb hby at_5) k) ?_
  show own_Go p e below K (s₁.setTop (mkF m 6 #[.val (.int p1), .val (.int p2), .val (.int nc), .unset, .unset, .unset, .unset, .unset, .unset, .unset] [(.int (3 : Int32)), (.int p2)]))
  refine own_st (fun t k => XS.iand X0.here hx rfl (hb hby at_6) rfl k) ?_
  show own_Go p e below K (s₁.setTop (mkF m 7 #[.val (.int p1), .val (.int p2), .val (.int nc), .unset, .unset, .unset, .unset, .unset, .unset, .unset] [(.int (p2 &&& (3 : Int32)))]))
  generalize hmu : (p2 &&& (3 : Int32)) = mu
  show own_Go p e below K (s₁.setTop (mkF m 7 #[.val (.int p1), .val (.int p2), .val (.int nc), .unset, .unset, .unset, .unset, .unset, .unset, .unset] [(.int mu)]))
  have Bm := own_n3 hmu
  refine own_st (fun t k => XS.istoreN X0.here hx rfl (hb hby at_7) rfl (l' := #[.val (.int p1), .val (.int p2), .val (.int nc), .val (.int mu), .unset, .unset, .unset, .unset, .unset, .unset]) rfl k) ?_
  show own_Go p e below K (s₁.setTop (mkF m 8 #[.val (.int p1), .val (.int p2), .val (.int nc), .val (.int mu), .unset, .unset, .unset, .unset, .unset, .unset] []))
  obtain ⟨T1, h1, X1, e1, E1, A1, D1, -, st1⟩ := newO X0 hx hZ hown (hw _ (List.mem_of_getElem? (i := 0) rfl)) (hw _ (List.mem_of_getElem? (i := 1) rfl)) (hw _ (List.mem_of_getElem? (i := 2) rfl)) e0 (g := (mkF m 8 #[.val (.int p1), .val (.int p2), .val (.int nc), .val (.int mu), .unset, .unset, .unset, .unset, .unset, .unset] [])) rfl (hb hby at_8) (by decide) (by decide)
  obtain ⟨b1, g1⟩ : ∃ z, z = h0.size := ⟨_, rfl⟩
  rw [← g1] at A1 D1 st1
  have ne_xd_b1 : xd ≠ b1 := Nat.ne_of_lt (Nat.lt_of_lt_of_le P0.lt (Nat.le_of_eq g1.symm))
  have g_b1 : n0 ≤ b1 := Nat.le_trans Z0 (Nat.le_of_eq g1.symm)
  have f2 : Arv Z h1 xd xk (.object "java/lang/Object") (0 : Int32) [] .null := P0.ext E1
  have f3 : Old Z n0 h1 := P1.ext E1
  have f4 : Fld Z h1 b1 "com/example/coverbill/coverbill/charge/PriceItemChanges" "created" "Ljava/util/List;" .null := D1 (Or.inr (hw _ (List.mem_of_getElem? (i := 34) rfl))) (ty := (.object "java/util/List")) (by decide)
  have f5 : Fld Z h1 b1 "com/example/coverbill/coverbill/charge/PriceItemChanges" "updated" "Ljava/util/List;" .null := D1 (Or.inr (hw _ (List.mem_of_getElem? (i := 36) rfl))) (ty := (.object "java/util/List")) (by decide)
  have f6 : Fld Z h1 b1 "com/example/coverbill/coverbill/charge/PriceItemChanges" "lastDays" "Ljava/util/Map;" .null := D1 (Or.inr (hw _ (List.mem_of_getElem? (i := 64) rfl))) (ty := (.object "java/util/Map")) (by decide)
  have f7 : Fld Z h1 b1 "com/example/coverbill/coverbill/charge/PriceItemChanges" "errors" "Ljava/util/List;" .null := D1 (Or.inr (hw _ (List.mem_of_getElem? (i := 66) rfl))) (ty := (.object "java/util/List")) (by decide)
  have f8 : Fld Z h1 b1 "com/example/coverbill/coverbill/charge/PriceItemChanges" "complete" "I" (.int (0 : Int32)) := D1 (Or.inl (hw _ (List.mem_of_getElem? (i := 120) rfl))) (ty := .int) (by decide)
  have f9 : Fld Z h1 b1 "com/example/coverbill/coverbill/charge/PriceItemChanges" "failed" "I" (.int (0 : Int32)) := D1 (Or.inl (hw _ (List.mem_of_getElem? (i := 122) rfl))) (ty := .int) (by decide)
  have f10 : Fld Z h1 b1 "com/example/coverbill/coverbill/charge/PriceItemChanges" "endDatesChanged" "I" (.int (0 : Int32)) := D1 (Or.inl (hw _ (List.mem_of_getElem? (i := 132) rfl))) (ty := .int) (by decide)
  have f11 : Fld Z h1 b1 "com/example/coverbill/coverbill/charge/PriceItemChanges" "canceled" "I" (.int (0 : Int32)) := D1 (Or.inl (hw _ (List.mem_of_getElem? (i := 134) rfl))) (ty := .int) (by decide)
  have Z1 : n0 ≤ h1.size := Nat.le_trans Z0 E1.1
  refine own_st st1 ?_
  show own_Go p e below K (T1.setTop (mkF m 11 #[.val (.int p1), .val (.int p2), .val (.int nc), .val (.int mu), .unset, .unset, .unset, .unset, .unset, .unset] [(.ref b1)]))
  refine own_st (fun t k => XS.dup X1.here hx rfl (hb hby at_11) rfl rfl k) ?_
  show own_Go p e below K (T1.setTop (mkF m 12 #[.val (.int p1), .val (.int p2), .val (.int nc), .val (.int mu), .unset, .unset, .unset, .unset, .unset, .unset] [(.ref b1), (.ref b1)]))
  obtain ⟨_, _, ⟨T12, L12, k12, n12⟩, -, X12, ⟨Lc12, hQ12, l12, y12, z12⟩, st12⟩ := X1.specialBack hx (y := (⟨"com/example/coverbill/coverbill/charge/PriceItemChanges", "<init>", "()V"⟩ : MethodName)) rfl hown (mvT hZ (hw _ (List.mem_of_getElem? (i := 3) rfl))) (mvT hZ (hw _ (List.mem_of_getElem? (i := 4) rfl))) (mvT hZ (hw _ (List.mem_of_getElem? (i := 5) rfl))) (by decide) (backOf (W := 1) (rm1 l Z a0 hw [] b1 (xd) h1 n0 Z1 g_b1 A1 f4 f5 f6 f7 f8 f9 f10 f11 f3 SD) hZ (hw _ (List.mem_of_getElem? (i := 5) rfl)) (hw _ (List.mem_of_getElem? (i := 2) rfl)) (by decide) (by decide)) (g := (mkF m 12 #[.val (.int p1), .val (.int p2), .val (.int nc), .val (.int mu), .unset, .unset, .unset, .unset, .unset, .unset] [(.ref b1), (.ref b1)])) rfl (by rw [hml]; rfl) (Steps.refl _) (a := b1) (argsL := []) (rest := [(.ref b1)]) (lenOf pd_0_0 rfl) rfl (by show 2 * 0 + _ ≤ _; exact Nat.le_of_eq rfl) (hb hby at_12) (fun _ _ => ⟨rfl, e1, (by decide : 1 + 4 ≤ _), (by decide : 9 + 21 ≤ _)⟩)
  dsimp only [Pt.U, Pt.locs, Pt.cells, Pt.slots] at X12 l12 y12 z12 st12 hQ12
  subst l12 y12 z12
  obtain ⟨xc_12, xu_12, rfl, N12q, Kq12, p12_0, p12_1, p12_2, p12_3, p12_4, p12_5, p12_6, p12_7, p12_8, p12_9, p12_10, p12_11, p12_12, p12_13, p12_14, pp12_0, pp12_1, pp12_2⟩ := hQ12
  have N12 := Fr.app N0 N12q
  have f13 : Arv Z T12.heap xd xk (.object "java/lang/Object") (0 : Int32) [] .null := f2.keep Kq12 (ninS ne_xd_b1 nin0)
  have f14 : Old Z n0 T12.heap := f3.keep Kq12 (allS (P := fun x => n0 ≤ x) g_b1 all0)
  have Z12 : n0 ≤ T12.heap.size := Nat.le_trans Z1 Kq12.1
  refine own_tr st12 ?_
  show own_Go p e below K (T12.setTop (mkF m 15 #[.val (.int p1), .val (.int p2), .val (.int nc), .val (.int mu), .unset, .unset, .unset, .unset, .unset, .unset] [(.ref b1)]))
  have ne_b1_xc_12 : b1 ≠ xc_12 := Nat.ne_of_lt (Nat.lt_of_lt_of_le A1.lt pp12_0)
  have g_xc_12 : n0 ≤ xc_12 := Nat.le_trans Z1 pp12_0
  have ne_xd_xc_12 : xd ≠ xc_12 := Nat.ne_of_lt (Nat.lt_of_lt_of_le f2.lt pp12_0)
  have Lxc_12 : own_L Z T12.heap xc_12 (0 : Int32) xc_12 xd := ⟨p12_7, p12_10, ⟨_, p12_9⟩, Or.inl ⟨rfl, rfl, p12_8⟩⟩
  have ne_b1_xu_12 : b1 ≠ xu_12 := Nat.ne_of_lt (Nat.lt_of_lt_of_le A1.lt pp12_1)
  have g_xu_12 : n0 ≤ xu_12 := Nat.le_trans Z1 pp12_1
  have ne_xd_xu_12 : xd ≠ xu_12 := Nat.ne_of_lt (Nat.lt_of_lt_of_le f2.lt pp12_1)
  have Lxu_12 : own_L Z T12.heap xu_12 (0 : Int32) xu_12 xd := ⟨p12_11, p12_14, ⟨_, p12_13⟩, Or.inl ⟨rfl, rfl, p12_12⟩⟩
  have ne_xc_12_xu_12 : xc_12 ≠ xu_12 := pp12_2
  refine own_st (fun t k => XS.astore X12.here hx rfl (hb hby at_15) rfl rfl (l' := #[.val (.int p1), .val (.int p2), .val (.int nc), .val (.int mu), .val (.ref b1), .unset, .unset, .unset, .unset, .unset]) rfl k) ?_
  show own_Go p e below K (T12.setTop (mkF m 17 #[.val (.int p1), .val (.int p2), .val (.int nc), .val (.int mu), .val (.ref b1), .unset, .unset, .unset, .unset, .unset] []))
  refine own_st (fun t k => XS.aload X12.here hx rfl (hb hby at_17) rfl rfl k) ?_
  show own_Go p e below K (T12.setTop (mkF m 19 #[.val (.int p1), .val (.int p2), .val (.int nc), .val (.int mu), .val (.ref b1), .unset, .unset, .unset, .unset, .unset] [(.ref b1)]))
  obtain ⟨cq15, kq15, qv15a, qv15b, qv15c⟩ := isOf hZ rfl p12_0
  obtain ⟨_, _, ⟨T15, L15, k15, n15⟩, -, X15, ⟨Lc15, hQ15, l15, y15, z15⟩, st15⟩ := X12.virtualBack hx (y := (⟨"com/example/coverbill/coverbill/charge/PriceItemChanges", "created", "()Ljava/util/List;"⟩ : MethodName)) (z := (⟨"com/example/coverbill/coverbill/charge/PriceItemChanges", "created", "()Ljava/util/List;"⟩ : MethodName)) hown (mvT hZ (hw _ (List.mem_of_getElem? (i := 67) rfl))) (mvT hZ (hw _ (List.mem_of_getElem? (i := 68) rfl))) (notFace_of_selects (args := #[]) (mvT hZ (hw _ (List.mem_of_getElem? (i := 70) rfl)))) (mvT hZ (hw _ (List.mem_of_getElem? (i := 70) rfl))) (mvT hZ (hw _ (List.mem_of_getElem? (i := 69) rfl))) (by decide) (backOf (W := 0) (rm9 l Z a0 hw [] b1 (xc_12) T12.heap n0 Z12 p12_1) hZ (hw _ (List.mem_of_getElem? (i := 71) rfl)) (hw _ (List.mem_of_getElem? (i := 2) rfl)) (by decide) (by decide)) qv15a qv15c (g := (mkF m 19 #[.val (.int p1), .val (.int p2), .val (.int nc), .val (.int mu), .val (.ref b1), .unset, .unset, .unset, .unset, .unset] [(.ref b1)])) rfl (by rw [hml]; rfl) (Steps.refl _) (argsL := []) (rest := []) (lenOf pd_0_1 rfl) rfl (by show 2 * 0 + _ ≤ _; exact Nat.le_of_eq rfl) (hb hby at_19) (fun _ _ => ⟨rfl, rfl, (by decide : 5 + 0 ≤ _), (by decide : 30 + 0 ≤ _)⟩)
  dsimp only [Pt.U, Pt.locs, Pt.cells, Pt.slots] at X15 l15 y15 z15 st15 hQ15
  subst l15 y15 z15
  obtain ⟨r15, rfl, hr15, N15q, e15⟩ := hQ15
  have N15 := Fr.app N12 N15q
  refine own_tr st15 ?_
  show own_Go p e below K (T15.setTop (mkF m 22 #[.val (.int p1), .val (.int p2), .val (.int nc), .val (.int mu), .val (.ref b1), .unset, .unset, .unset, .unset, .unset] [(.ref r15)]))
  have hs := (hr15.symm : xc_12 = r15)
  subst hs
  show own_Go p e below K (T15.setTop (mkF m 22 #[.val (.int p1), .val (.int p2), .val (.int nc), .val (.int mu), .val (.ref b1), .unset, .unset, .unset, .unset, .unset] [(.ref xc_12)]))
  refine own_st (fun t k => XS.astore X15.here hx rfl (hb hby at_22) rfl rfl (l' := #[.val (.int p1), .val (.int p2), .val (.int nc), .val (.int mu), .val (.ref b1), .val (.ref xc_12), .unset, .unset, .unset, .unset]) rfl k) ?_
  show own_Go p e below K (T15.setTop (mkF m 24 #[.val (.int p1), .val (.int p2), .val (.int nc), .val (.int mu), .val (.ref b1), .val (.ref xc_12), .unset, .unset, .unset, .unset] []))
  refine own_st (fun t k => XS.aload X15.here hx rfl (hb hby at_24) rfl rfl k) ?_
  show own_Go p e below K (T15.setTop (mkF m 26 #[.val (.int p1), .val (.int p2), .val (.int nc), .val (.int mu), .val (.ref b1), .val (.ref xc_12), .unset, .unset, .unset, .unset] [(.ref b1)]))
  obtain ⟨cq16, kq16, qv16a, qv16b, qv16c⟩ := isOf hZ e15 p12_0
  obtain ⟨_, _, ⟨T16, L16, k16, n16⟩, -, X16, ⟨Lc16, hQ16, l16, y16, z16⟩, st16⟩ := X15.virtualBack hx (y := (⟨"com/example/coverbill/coverbill/charge/PriceItemChanges", "updated", "()Ljava/util/List;"⟩ : MethodName)) (z := (⟨"com/example/coverbill/coverbill/charge/PriceItemChanges", "updated", "()Ljava/util/List;"⟩ : MethodName)) hown (mvT hZ (hw _ (List.mem_of_getElem? (i := 72) rfl))) (mvT hZ (hw _ (List.mem_of_getElem? (i := 73) rfl))) (notFace_of_selects (args := #[]) (mvT hZ (hw _ (List.mem_of_getElem? (i := 75) rfl)))) (mvT hZ (hw _ (List.mem_of_getElem? (i := 75) rfl))) (mvT hZ (hw _ (List.mem_of_getElem? (i := 74) rfl))) (by decide) (backOf (W := 0) (rm10 l Z a0 hw [] b1 (xu_12) T12.heap n0 Z12 p12_2) hZ (hw _ (List.mem_of_getElem? (i := 76) rfl)) (hw _ (List.mem_of_getElem? (i := 2) rfl)) (by decide) (by decide)) qv16a qv16c (g := (mkF m 26 #[.val (.int p1), .val (.int p2), .val (.int nc), .val (.int mu), .val (.ref b1), .val (.ref xc_12), .unset, .unset, .unset, .unset] [(.ref b1)])) rfl (by rw [hml]; rfl) (Steps.refl _) (argsL := []) (rest := []) (lenOf pd_0_1 rfl) rfl (by show 2 * 0 + _ ≤ _; exact Nat.le_of_eq rfl) (hb hby at_26) (fun _ _ => ⟨rfl, e15, (by decide : 5 + 0 ≤ _), (by decide : 30 + 0 ≤ _)⟩)
  dsimp only [Pt.U, Pt.locs, Pt.cells, Pt.slots] at X16 l16 y16 z16 st16 hQ16
  subst l16 y16 z16
  obtain ⟨r16, rfl, hr16, N16q, e16⟩ := hQ16
  have N16 := Fr.app N15 N16q
  refine own_tr st16 ?_
  show own_Go p e below K (T16.setTop (mkF m 29 #[.val (.int p1), .val (.int p2), .val (.int nc), .val (.int mu), .val (.ref b1), .val (.ref xc_12), .unset, .unset, .unset, .unset] [(.ref r16)]))
  have hs := (hr16.symm : xu_12 = r16)
  subst hs
  show own_Go p e below K (T16.setTop (mkF m 29 #[.val (.int p1), .val (.int p2), .val (.int nc), .val (.int mu), .val (.ref b1), .val (.ref xc_12), .unset, .unset, .unset, .unset] [(.ref xu_12)]))
  refine own_st (fun t k => XS.astore X16.here hx rfl (hb hby at_29) rfl rfl (l' := #[.val (.int p1), .val (.int p2), .val (.int nc), .val (.int mu), .val (.ref b1), .val (.ref xc_12), .val (.ref xu_12), .unset, .unset, .unset]) rfl k) ?_
  show own_Go p e below K (T16.setTop (mkF m 31 #[.val (.int p1), .val (.int p2), .val (.int nc), .val (.int mu), .val (.ref b1), .val (.ref xc_12), .val (.ref xu_12), .unset, .unset, .unset] []))
  have J72 : ∀ (T' : State) (locs' : List Loc) (h' : Heap) (bj : Addr) (X' : Stand p l e room_1 s m #[(.int p1), (.int p2)] below meth c T' locs' 8 60) (e' : T'.heap = h') (N' : Fr n0 locs') (Z' : n0 ≤ h'.size) (F0' : Exa Z h' b1 "com/example/coverbill/coverbill/charge/PriceItemChanges") (F1' : Fld Z h' b1 "com/example/coverbill/coverbill/charge/PriceItemChanges" "created" "Ljava/util/List;" (.ref xc_12)) (F2' : Fld Z h' b1 "com/example/coverbill/coverbill/charge/PriceItemChanges" "updated" "Ljava/util/List;" (.ref xu_12)) (F3' : Fld Z h' b1 "com/example/coverbill/coverbill/charge/PriceItemChanges" "complete" "I" (.int (0 : Int32))) (F4' : Fld Z h' b1 "com/example/coverbill/coverbill/charge/PriceItemChanges" "failed" "I" (.int (0 : Int32))) (F5' : Fld Z h' b1 "com/example/coverbill/coverbill/charge/PriceItemChanges" "endDatesChanged" "I" (.int (0 : Int32))) (F6' : Fld Z h' b1 "com/example/coverbill/coverbill/charge/PriceItemChanges" "canceled" "I" (.int (0 : Int32))) (F7' : own_L Z h' xc_12 nc bj xd) (F8' : own_L Z h' xu_12 (0 : Int32) xu_12 xd) (F9' : Arv Z h' xd xk (.object "java/lang/Object") (0 : Int32) [] .null) (F10' : Old Z n0 h'), (b1 ≠ bj ∧ xu_12 ≠ bj ∧ xd ≠ bj ∧ n0 ≤ bj) → own_Go p e below K (T'.setTop (mkF m 72 #[.val (.int p1), .val (.int p2), .val (.int nc), .val (.int mu), .val (.ref b1), .val (.ref xc_12), .val (.ref xu_12), .unset, .unset, .unset] [])) := by
    intro T17 locs17 hh17 bj X17 e17 N17 Z17 F17_0 F17_1 F17_2 F17_3 F17_4 F17_5 F17_6 F17_7 F17_8 F17_9 F17_10 hj
    obtain ⟨ne_b1_bj, ne_xu_12_bj, ne_xd_bj, g_bj⟩ := hj
    have J113 : ∀ (T' : State) (locs' : List Loc) (h' : Heap) (bk : Addr) (X' : Stand p l e room_1 s m #[(.int p1), (.int p2)] below meth c T' locs' 11 90) (e' : T'.heap = h') (N' : Fr n0 locs') (Z' : n0 ≤ h'.size) (F0' : Exa Z h' b1 "com/example/coverbill/coverbill/charge/PriceItemChanges") (F1' : Fld Z h' b1 "com/example/coverbill/coverbill/charge/PriceItemChanges" "created" "Ljava/util/List;" (.ref xc_12)) (F2' : Fld Z h' b1 "com/example/coverbill/coverbill/charge/PriceItemChanges" "updated" "Ljava/util/List;" (.ref xu_12)) (F3' : Fld Z h' b1 "com/example/coverbill/coverbill/charge/PriceItemChanges" "complete" "I" (.int (0 : Int32))) (F4' : Fld Z h' b1 "com/example/coverbill/coverbill/charge/PriceItemChanges" "failed" "I" (.int (0 : Int32))) (F5' : Fld Z h' b1 "com/example/coverbill/coverbill/charge/PriceItemChanges" "endDatesChanged" "I" (.int (0 : Int32))) (F6' : Fld Z h' b1 "com/example/coverbill/coverbill/charge/PriceItemChanges" "canceled" "I" (.int (0 : Int32))) (F7' : own_L Z h' xu_12 mu bk xd) (F8' : own_L Z h' xc_12 nc bj xd) (F9' : Arv Z h' xd xk (.object "java/lang/Object") (0 : Int32) [] .null) (F10' : Old Z n0 h'), (b1 ≠ bk ∧ xc_12 ≠ bk ∧ xd ≠ bk ∧ bj ≠ bk ∧ n0 ≤ bk) → own_Go p e below K (T'.setTop (mkF m 113 #[.val (.int p1), .val (.int p2), .val (.int nc), .val (.int mu), .val (.ref b1), .val (.ref xc_12), .val (.ref xu_12), .unset, .unset, .unset] [])) := by
      intro T18 locs18 hh18 bk X18 e18 N18 Z18 F18_0 F18_1 F18_2 F18_3 F18_4 F18_5 F18_6 F18_7 F18_8 F18_9 F18_10 hj
      obtain ⟨ne_b1_bk, ne_xc_12_bk, ne_xd_bk, ne_bj_bk, g_bk⟩ := hj
      have ExF18_8 := F18_8.1
      have FsF18_8 := F18_8.2.1
      refine own_st (fun t k => XS.aload X18.here hx rfl (hb hby at_113) rfl rfl k) ?_
      show own_Go p e below K (T18.setTop (mkF m 115 #[.val (.int p1), .val (.int p2), .val (.int nc), .val (.int mu), .val (.ref b1), .val (.ref xc_12), .val (.ref xu_12), .unset, .unset, .unset] [(.ref b1)]))
      obtain ⟨cq19, kq19, qv19a, qv19b, qv19c⟩ := isOf hZ e18 F18_0
      obtain ⟨_, _, ⟨T19, L19, k19, n19⟩, -, X19, ⟨Lc19, hQ19, l19, y19, z19⟩, st19⟩ := X18.virtualBack hx (y := (⟨"com/example/coverbill/coverbill/charge/PriceItemChanges", "counted", "()Lcom/example/coverbill/coverbill/charge/ChargeRunResult;"⟩ : MethodName)) (z := (⟨"com/example/coverbill/coverbill/charge/PriceItemChanges", "counted", "()Lcom/example/coverbill/coverbill/charge/ChargeRunResult;"⟩ : MethodName)) hown (mvT hZ (hw _ (List.mem_of_getElem? (i := 111) rfl))) (mvT hZ (hw _ (List.mem_of_getElem? (i := 112) rfl))) (notFace_of_selects (args := #[]) (mvT hZ (hw _ (List.mem_of_getElem? (i := 114) rfl)))) (mvT hZ (hw _ (List.mem_of_getElem? (i := 114) rfl))) (mvT hZ (hw _ (List.mem_of_getElem? (i := 113) rfl))) (by decide) (backOf (W := 0) (rm16 l Z a0 hw [] b1 (xc_12) (nc) hh18 n0 Z18 F18_3 F18_4 F18_5 F18_6 F18_1 ExF18_8 FsF18_8) hZ (hw _ (List.mem_of_getElem? (i := 115) rfl)) (hw _ (List.mem_of_getElem? (i := 2) rfl)) (by decide) (by decide)) qv19a qv19c (g := (mkF m 115 #[.val (.int p1), .val (.int p2), .val (.int nc), .val (.int mu), .val (.ref b1), .val (.ref xc_12), .val (.ref xu_12), .unset, .unset, .unset] [(.ref b1)])) rfl (by rw [hml]; rfl) (Steps.refl _) (argsL := []) (rest := []) (lenOf pd_0_7 rfl) rfl (by show 2 * 0 + _ ≤ _; exact Nat.le_of_eq rfl) (hb hby at_115) (fun _ _ => ⟨rfl, e18, (by decide : 11 + 1 ≤ _), (by decide : 90 + 5 ≤ _)⟩)
      dsimp only [Pt.U, Pt.locs, Pt.cells, Pt.slots] at X19 l19 y19 z19 st19 hQ19
      subst l19 y19 z19
      obtain ⟨r19, y_19, rfl, hr19, fr19, N19q, Kq19, p19_0, p19_1, p19_2, p19_3, p19_4, p19_5, pp19_0⟩ := hQ19
      have N19 := Fr.app N18 N19q
      have ne_b1_r19 : b1 ≠ r19 := Nat.ne_of_lt (Nat.lt_of_lt_of_le F18_0.lt fr19)
      have ne_bj_r19 : bj ≠ r19 := Nat.ne_of_lt (Nat.lt_of_lt_of_le F18_8.ltb fr19)
      have ne_bk_r19 : bk ≠ r19 := Nat.ne_of_lt (Nat.lt_of_lt_of_le F18_7.ltb fr19)
      have ne_xc_12_r19 : xc_12 ≠ r19 := Nat.ne_of_lt (Nat.lt_of_lt_of_le F18_8.lta fr19)
      have ne_xd_r19 : xd ≠ r19 := Nat.ne_of_lt (Nat.lt_of_lt_of_le F18_9.lt fr19)
      have ne_xu_12_r19 : xu_12 ≠ r19 := Nat.ne_of_lt (Nat.lt_of_lt_of_le F18_7.lta fr19)
      have g_r19 : n0 ≤ r19 := Nat.le_trans Z18 fr19
      have f20 : Exa Z T19.heap b1 "com/example/coverbill/coverbill/charge/PriceItemChanges" := F18_0.keep Kq19
      have f21 : Fld Z T19.heap b1 "com/example/coverbill/coverbill/charge/PriceItemChanges" "created" "Ljava/util/List;" (.ref xc_12) := F18_1.keep Kq19 nin0
      have f22 : Fld Z T19.heap b1 "com/example/coverbill/coverbill/charge/PriceItemChanges" "updated" "Ljava/util/List;" (.ref xu_12) := F18_2.keep Kq19 nin0
      have f23 : Fld Z T19.heap b1 "com/example/coverbill/coverbill/charge/PriceItemChanges" "complete" "I" (.int (0 : Int32)) := F18_3.keep Kq19 nin0
      have f24 : Fld Z T19.heap b1 "com/example/coverbill/coverbill/charge/PriceItemChanges" "failed" "I" (.int (0 : Int32)) := F18_4.keep Kq19 nin0
      have f25 : Fld Z T19.heap b1 "com/example/coverbill/coverbill/charge/PriceItemChanges" "endDatesChanged" "I" (.int (0 : Int32)) := F18_5.keep Kq19 nin0
      have f26 : Fld Z T19.heap b1 "com/example/coverbill/coverbill/charge/PriceItemChanges" "canceled" "I" (.int (0 : Int32)) := F18_6.keep Kq19 nin0
      have f27 : own_L Z T19.heap xu_12 mu bk xd := F18_7.keep Kq19 nin0 nin0
      have f28 : own_L Z T19.heap xc_12 nc bj xd := F18_8.keep Kq19 nin0 nin0
      have f29 : Arv Z T19.heap xd xk (.object "java/lang/Object") (0 : Int32) [] .null := F18_9.keep Kq19 nin0
      have f30 : Old Z n0 T19.heap := F18_10.keep Kq19 all0
      have f31 : Exa Z T19.heap xc_12 "java/util/ArrayList" := ExF18_8.keep Kq19
      have f32 : Fld Z T19.heap xc_12 "java/util/ArrayList" "size" "I" (.int nc) := FsF18_8.keep Kq19 nin0
      have Z19 : n0 ≤ T19.heap.size := Nat.le_trans Z18 Kq19.1
      refine own_tr st19 ?_
      show own_Go p e below K (T19.setTop (mkF m 118 #[.val (.int p1), .val (.int p2), .val (.int nc), .val (.int mu), .val (.ref b1), .val (.ref xc_12), .val (.ref xu_12), .unset, .unset, .unset] [(.ref r19)]))
      refine own_st (fun t k => XS.astore X19.here hx rfl (hb hby at_118) rfl rfl (l' := #[.val (.int p1), .val (.int p2), .val (.int nc), .val (.int mu), .val (.ref b1), .val (.ref xc_12), .val (.ref xu_12), .val (.ref r19), .unset, .unset]) rfl k) ?_
      show own_Go p e below K (T19.setTop (mkF m 120 #[.val (.int p1), .val (.int p2), .val (.int nc), .val (.int mu), .val (.ref b1), .val (.ref xc_12), .val (.ref xu_12), .val (.ref r19), .unset, .unset] []))
      refine own_st (fun t k => XS.aload X19.here hx rfl (hb hby at_120) rfl rfl k) ?_
      show own_Go p e below K (T19.setTop (mkF m 122 #[.val (.int p1), .val (.int p2), .val (.int nc), .val (.int mu), .val (.ref b1), .val (.ref xc_12), .val (.ref xu_12), .val (.ref r19), .unset, .unset] [(.ref r19)]))
      obtain ⟨cq33, kq33, qv33a, qv33b, qv33c⟩ := isOf hZ rfl p19_0
      obtain ⟨_, _, ⟨T33, L33, k33, n33⟩, -, X33, ⟨Lc33, hQ33, l33, y33, z33⟩, st33⟩ := X19.virtualBack hx (y := (⟨"com/example/coverbill/coverbill/charge/ChargeRunResult", "chargesCreated", "()I"⟩ : MethodName)) (z := (⟨"com/example/coverbill/coverbill/charge/ChargeRunResult", "chargesCreated", "()I"⟩ : MethodName)) hown (mvT hZ (hw _ (List.mem_of_getElem? (i := 149) rfl))) (mvT hZ (hw _ (List.mem_of_getElem? (i := 150) rfl))) (notFace_of_selects (args := #[]) (mvT hZ (hw _ (List.mem_of_getElem? (i := 152) rfl)))) (mvT hZ (hw _ (List.mem_of_getElem? (i := 152) rfl))) (mvT hZ (hw _ (List.mem_of_getElem? (i := 151) rfl))) (by decide) (backOf (W := 0) (rm19 l Z a0 hw [] r19 (y_19) T19.heap n0 Z19 p19_3) hZ (hw _ (List.mem_of_getElem? (i := 153) rfl)) (hw _ (List.mem_of_getElem? (i := 118) rfl)) (by decide) (by decide)) qv33a qv33c (g := (mkF m 122 #[.val (.int p1), .val (.int p2), .val (.int nc), .val (.int mu), .val (.ref b1), .val (.ref xc_12), .val (.ref xu_12), .val (.ref r19), .unset, .unset] [(.ref r19)])) rfl (by rw [hml]; rfl) (Steps.refl _) (argsL := []) (rest := []) (lenOf pd_0_8 rfl) rfl (by show 2 * 0 + _ ≤ _; exact Nat.le_of_eq rfl) (hb hby at_122) (fun _ _ => ⟨rfl, rfl, (by decide : 12 + 0 ≤ _), (by decide : 95 + 0 ≤ _)⟩)
      dsimp only [Pt.U, Pt.locs, Pt.cells, Pt.slots] at X33 l33 y33 z33 st33 hQ33
      subst l33 y33 z33
      obtain ⟨r33, rfl, hr33, N33q, e33⟩ := hQ33
      have N33 := Fr.app N19 N33q
      refine own_tr st33 ?_
      show own_Go p e below K (T33.setTop (mkF m 125 #[.val (.int p1), .val (.int p2), .val (.int nc), .val (.int mu), .val (.ref b1), .val (.ref xc_12), .val (.ref xu_12), .val (.ref r19), .unset, .unset] [(.int r33)]))
      refine own_st (fun t k => XS.iloadN X33.here hx rfl (hb hby at_125) rfl k) ?_
      show own_Go p e below K (T33.setTop (mkF m 126 #[.val (.int p1), .val (.int p2), .val (.int nc), .val (.int mu), .val (.ref b1), .val (.ref xc_12), .val (.ref xu_12), .val (.ref r19), .unset, .unset] [(.int nc), (.int r33)]))
      refine own_st (fun t k => XS.icmpNo X33.here hx rfl (hb hby at_126) rfl (teq (hr33.trans pp19_0 : r33 = nc)).2 k) ?_
      show own_Go p e below K (T33.setTop (mkF m 129 #[.val (.int p1), .val (.int p2), .val (.int nc), .val (.int mu), .val (.ref b1), .val (.ref xc_12), .val (.ref xu_12), .val (.ref r19), .unset, .unset] []))
      refine own_st (fun t k => XS.aload X33.here hx rfl (hb hby at_129) rfl rfl k) ?_
      show own_Go p e below K (T33.setTop (mkF m 131 #[.val (.int p1), .val (.int p2), .val (.int nc), .val (.int mu), .val (.ref b1), .val (.ref xc_12), .val (.ref xu_12), .val (.ref r19), .unset, .unset] [(.ref r19)]))
      obtain ⟨cq34, kq34, qv34a, qv34b, qv34c⟩ := isOf hZ e33 p19_0
      obtain ⟨_, _, ⟨T34, L34, k34, n34⟩, -, X34, ⟨Lc34, hQ34, l34, y34, z34⟩, st34⟩ := X33.virtualBack hx (y := (⟨"com/example/coverbill/coverbill/charge/ChargeRunResult", "complete", "()I"⟩ : MethodName)) (z := (⟨"com/example/coverbill/coverbill/charge/ChargeRunResult", "complete", "()I"⟩ : MethodName)) hown (mvT hZ (hw _ (List.mem_of_getElem? (i := 154) rfl))) (mvT hZ (hw _ (List.mem_of_getElem? (i := 155) rfl))) (notFace_of_selects (args := #[]) (mvT hZ (hw _ (List.mem_of_getElem? (i := 157) rfl)))) (mvT hZ (hw _ (List.mem_of_getElem? (i := 157) rfl))) (mvT hZ (hw _ (List.mem_of_getElem? (i := 156) rfl))) (by decide) (backOf (W := 0) (rm20 l Z a0 hw [] r19 ((0 : Int32)) T19.heap n0 Z19 p19_1) hZ (hw _ (List.mem_of_getElem? (i := 158) rfl)) (hw _ (List.mem_of_getElem? (i := 118) rfl)) (by decide) (by decide)) qv34a qv34c (g := (mkF m 131 #[.val (.int p1), .val (.int p2), .val (.int nc), .val (.int mu), .val (.ref b1), .val (.ref xc_12), .val (.ref xu_12), .val (.ref r19), .unset, .unset] [(.ref r19)])) rfl (by rw [hml]; rfl) (Steps.refl _) (argsL := []) (rest := []) (lenOf pd_0_8 rfl) rfl (by show 2 * 0 + _ ≤ _; exact Nat.le_of_eq rfl) (hb hby at_131) (fun _ _ => ⟨rfl, e33, (by decide : 12 + 0 ≤ _), (by decide : 95 + 0 ≤ _)⟩)
      dsimp only [Pt.U, Pt.locs, Pt.cells, Pt.slots] at X34 l34 y34 z34 st34 hQ34
      subst l34 y34 z34
      obtain ⟨r34, rfl, hr34, N34q, e34⟩ := hQ34
      have N34 := Fr.app N33 N34q
      refine own_tr st34 ?_
      show own_Go p e below K (T34.setTop (mkF m 134 #[.val (.int p1), .val (.int p2), .val (.int nc), .val (.int mu), .val (.ref b1), .val (.ref xc_12), .val (.ref xu_12), .val (.ref r19), .unset, .unset] [(.int r34)]))
      refine own_st (fun t k => XS.ifNo X34.here hx rfl (hb hby at_134) rfl ((if0 _ _).trans (teq (hr34 : r34 = (0 : Int32))).2) k) ?_
      show own_Go p e below K (T34.setTop (mkF m 137 #[.val (.int p1), .val (.int p2), .val (.int nc), .val (.int mu), .val (.ref b1), .val (.ref xc_12), .val (.ref xu_12), .val (.ref r19), .unset, .unset] []))
      refine own_st (fun t k => XS.aload X34.here hx rfl (hb hby at_137) rfl rfl k) ?_
      show own_Go p e below K (T34.setTop (mkF m 139 #[.val (.int p1), .val (.int p2), .val (.int nc), .val (.int mu), .val (.ref b1), .val (.ref xc_12), .val (.ref xu_12), .val (.ref r19), .unset, .unset] [(.ref r19)]))
      obtain ⟨cq35, kq35, qv35a, qv35b, qv35c⟩ := isOf hZ e34 p19_0
      obtain ⟨_, _, ⟨T35, L35, k35, n35⟩, -, X35, ⟨Lc35, hQ35, l35, y35, z35⟩, st35⟩ := X34.virtualBack hx (y := (⟨"com/example/coverbill/coverbill/charge/ChargeRunResult", "error", "()I"⟩ : MethodName)) (z := (⟨"com/example/coverbill/coverbill/charge/ChargeRunResult", "error", "()I"⟩ : MethodName)) hown (mvT hZ (hw _ (List.mem_of_getElem? (i := 159) rfl))) (mvT hZ (hw _ (List.mem_of_getElem? (i := 160) rfl))) (notFace_of_selects (args := #[]) (mvT hZ (hw _ (List.mem_of_getElem? (i := 162) rfl)))) (mvT hZ (hw _ (List.mem_of_getElem? (i := 162) rfl))) (mvT hZ (hw _ (List.mem_of_getElem? (i := 161) rfl))) (by decide) (backOf (W := 0) (rm21 l Z a0 hw [] r19 ((0 : Int32)) T19.heap n0 Z19 p19_2) hZ (hw _ (List.mem_of_getElem? (i := 163) rfl)) (hw _ (List.mem_of_getElem? (i := 118) rfl)) (by decide) (by decide)) qv35a qv35c (g := (mkF m 139 #[.val (.int p1), .val (.int p2), .val (.int nc), .val (.int mu), .val (.ref b1), .val (.ref xc_12), .val (.ref xu_12), .val (.ref r19), .unset, .unset] [(.ref r19)])) rfl (by rw [hml]; rfl) (Steps.refl _) (argsL := []) (rest := []) (lenOf pd_0_8 rfl) rfl (by show 2 * 0 + _ ≤ _; exact Nat.le_of_eq rfl) (hb hby at_139) (fun _ _ => ⟨rfl, e34, (by decide : 12 + 0 ≤ _), (by decide : 95 + 0 ≤ _)⟩)
      dsimp only [Pt.U, Pt.locs, Pt.cells, Pt.slots] at X35 l35 y35 z35 st35 hQ35
      subst l35 y35 z35
      obtain ⟨r35, rfl, hr35, N35q, e35⟩ := hQ35
      have N35 := Fr.app N34 N35q
      refine own_tr st35 ?_
      show own_Go p e below K (T35.setTop (mkF m 142 #[.val (.int p1), .val (.int p2), .val (.int nc), .val (.int mu), .val (.ref b1), .val (.ref xc_12), .val (.ref xu_12), .val (.ref r19), .unset, .unset] [(.int r35)]))
      refine own_st (fun t k => XS.ifNo X35.here hx rfl (hb hby at_142) rfl ((if0 _ _).trans (teq (hr35 : r35 = (0 : Int32))).2) k) ?_
      show own_Go p e below K (T35.setTop (mkF m 145 #[.val (.int p1), .val (.int p2), .val (.int nc), .val (.int mu), .val (.ref b1), .val (.ref xc_12), .val (.ref xu_12), .val (.ref r19), .unset, .unset] []))
      refine own_st (fun t k => XS.aload X35.here hx rfl (hb hby at_145) rfl rfl k) ?_
      show own_Go p e below K (T35.setTop (mkF m 147 #[.val (.int p1), .val (.int p2), .val (.int nc), .val (.int mu), .val (.ref b1), .val (.ref xc_12), .val (.ref xu_12), .val (.ref r19), .unset, .unset] [(.ref r19)]))
      obtain ⟨cq36, kq36, qv36a, qv36b, qv36c⟩ := isOf hZ e35 p19_0
      obtain ⟨_, _, ⟨T36, L36, k36, n36⟩, -, X36, ⟨Lc36, hQ36, l36, y36, z36⟩, st36⟩ := X35.virtualBack hx (y := (⟨"com/example/coverbill/coverbill/charge/ChargeRunResult", "endDatesChanged", "()I"⟩ : MethodName)) (z := (⟨"com/example/coverbill/coverbill/charge/ChargeRunResult", "endDatesChanged", "()I"⟩ : MethodName)) hown (mvT hZ (hw _ (List.mem_of_getElem? (i := 164) rfl))) (mvT hZ (hw _ (List.mem_of_getElem? (i := 165) rfl))) (notFace_of_selects (args := #[]) (mvT hZ (hw _ (List.mem_of_getElem? (i := 167) rfl)))) (mvT hZ (hw _ (List.mem_of_getElem? (i := 167) rfl))) (mvT hZ (hw _ (List.mem_of_getElem? (i := 166) rfl))) (by decide) (backOf (W := 0) (rm22 l Z a0 hw [] r19 ((0 : Int32)) T19.heap n0 Z19 p19_4) hZ (hw _ (List.mem_of_getElem? (i := 168) rfl)) (hw _ (List.mem_of_getElem? (i := 118) rfl)) (by decide) (by decide)) qv36a qv36c (g := (mkF m 147 #[.val (.int p1), .val (.int p2), .val (.int nc), .val (.int mu), .val (.ref b1), .val (.ref xc_12), .val (.ref xu_12), .val (.ref r19), .unset, .unset] [(.ref r19)])) rfl (by rw [hml]; rfl) (Steps.refl _) (argsL := []) (rest := []) (lenOf pd_0_8 rfl) rfl (by show 2 * 0 + _ ≤ _; exact Nat.le_of_eq rfl) (hb hby at_147) (fun _ _ => ⟨rfl, e35, (by decide : 12 + 0 ≤ _), (by decide : 95 + 0 ≤ _)⟩)
      dsimp only [Pt.U, Pt.locs, Pt.cells, Pt.slots] at X36 l36 y36 z36 st36 hQ36
      subst l36 y36 z36
      obtain ⟨r36, rfl, hr36, N36q, e36⟩ := hQ36
      have N36 := Fr.app N35 N36q
      refine own_tr st36 ?_
      show own_Go p e below K (T36.setTop (mkF m 150 #[.val (.int p1), .val (.int p2), .val (.int nc), .val (.int mu), .val (.ref b1), .val (.ref xc_12), .val (.ref xu_12), .val (.ref r19), .unset, .unset] [(.int r36)]))
      refine own_st (fun t k => XS.ifNo X36.here hx rfl (hb hby at_150) rfl ((if0 _ _).trans (teq (hr36 : r36 = (0 : Int32))).2) k) ?_
      show own_Go p e below K (T36.setTop (mkF m 153 #[.val (.int p1), .val (.int p2), .val (.int nc), .val (.int mu), .val (.ref b1), .val (.ref xc_12), .val (.ref xu_12), .val (.ref r19), .unset, .unset] []))
      refine own_st (fun t k => XS.aload X36.here hx rfl (hb hby at_153) rfl rfl k) ?_
      show own_Go p e below K (T36.setTop (mkF m 155 #[.val (.int p1), .val (.int p2), .val (.int nc), .val (.int mu), .val (.ref b1), .val (.ref xc_12), .val (.ref xu_12), .val (.ref r19), .unset, .unset] [(.ref r19)]))
      obtain ⟨cq37, kq37, qv37a, qv37b, qv37c⟩ := isOf hZ e36 p19_0
      obtain ⟨_, _, ⟨T37, L37, k37, n37⟩, -, X37, ⟨Lc37, hQ37, l37, y37, z37⟩, st37⟩ := X36.virtualBack hx (y := (⟨"com/example/coverbill/coverbill/charge/ChargeRunResult", "chargesCanceled", "()I"⟩ : MethodName)) (z := (⟨"com/example/coverbill/coverbill/charge/ChargeRunResult", "chargesCanceled", "()I"⟩ : MethodName)) hown (mvT hZ (hw _ (List.mem_of_getElem? (i := 169) rfl))) (mvT hZ (hw _ (List.mem_of_getElem? (i := 170) rfl))) (notFace_of_selects (args := #[]) (mvT hZ (hw _ (List.mem_of_getElem? (i := 172) rfl)))) (mvT hZ (hw _ (List.mem_of_getElem? (i := 172) rfl))) (mvT hZ (hw _ (List.mem_of_getElem? (i := 171) rfl))) (by decide) (backOf (W := 0) (rm23 l Z a0 hw [] r19 ((0 : Int32)) T19.heap n0 Z19 p19_5) hZ (hw _ (List.mem_of_getElem? (i := 173) rfl)) (hw _ (List.mem_of_getElem? (i := 118) rfl)) (by decide) (by decide)) qv37a qv37c (g := (mkF m 155 #[.val (.int p1), .val (.int p2), .val (.int nc), .val (.int mu), .val (.ref b1), .val (.ref xc_12), .val (.ref xu_12), .val (.ref r19), .unset, .unset] [(.ref r19)])) rfl (by rw [hml]; rfl) (Steps.refl _) (argsL := []) (rest := []) (lenOf pd_0_8 rfl) rfl (by show 2 * 0 + _ ≤ _; exact Nat.le_of_eq rfl) (hb hby at_155) (fun _ _ => ⟨rfl, e36, (by decide : 12 + 0 ≤ _), (by decide : 95 + 0 ≤ _)⟩)
      dsimp only [Pt.U, Pt.locs, Pt.cells, Pt.slots] at X37 l37 y37 z37 st37 hQ37
      subst l37 y37 z37
      obtain ⟨r37, rfl, hr37, N37q, e37⟩ := hQ37
      have N37 := Fr.app N36 N37q
      refine own_tr st37 ?_
      show own_Go p e below K (T37.setTop (mkF m 158 #[.val (.int p1), .val (.int p2), .val (.int nc), .val (.int mu), .val (.ref b1), .val (.ref xc_12), .val (.ref xu_12), .val (.ref r19), .unset, .unset] [(.int r37)]))
      refine own_st (fun t k => XS.ifNo X37.here hx rfl (hb hby at_158) rfl ((if0 _ _).trans (teq (hr37 : r37 = (0 : Int32))).2) k) ?_
      show own_Go p e below K (T37.setTop (mkF m 161 #[.val (.int p1), .val (.int p2), .val (.int nc), .val (.int mu), .val (.ref b1), .val (.ref xc_12), .val (.ref xu_12), .val (.ref r19), .unset, .unset] []))
      refine own_st (fun t k => XS.iconst X37.here hx rfl (hb hby at_161) k) ?_
      show own_Go p e below K (T37.setTop (mkF m 162 #[.val (.int p1), .val (.int p2), .val (.int nc), .val (.int mu), .val (.ref b1), .val (.ref xc_12), .val (.ref xu_12), .val (.ref r19), .unset, .unset] [(.int (1 : Int32))]))
      refine own_st (fun t k => XS.goto X37.here hx rfl (pc0 := 162) (pc' := 166) rfl (hb hby at_162) (by decide) (by decide) k) ?_
      show own_Go p e below K (T37.setTop (mkF m 166 #[.val (.int p1), .val (.int p2), .val (.int nc), .val (.int mu), .val (.ref b1), .val (.ref xc_12), .val (.ref xu_12), .val (.ref r19), .unset, .unset] [(.int (1 : Int32))]))
      refine own_st (fun t k => XS.istore X37.here hx rfl (hb hby at_166) rfl (l' := #[.val (.int p1), .val (.int p2), .val (.int nc), .val (.int mu), .val (.ref b1), .val (.ref xc_12), .val (.ref xu_12), .val (.ref r19), .val (.int (1 : Int32)), .unset]) rfl k) ?_
      show own_Go p e below K (T37.setTop (mkF m 168 #[.val (.int p1), .val (.int p2), .val (.int nc), .val (.int mu), .val (.ref b1), .val (.ref xc_12), .val (.ref xu_12), .val (.ref r19), .val (.int (1 : Int32)), .unset] []))
      refine own_st (fun t k => XS.aload X37.here hx rfl (hb hby at_168) rfl rfl k) ?_
      show own_Go p e below K (T37.setTop (mkF m 170 #[.val (.int p1), .val (.int p2), .val (.int nc), .val (.int mu), .val (.ref b1), .val (.ref xc_12), .val (.ref xu_12), .val (.ref r19), .val (.int (1 : Int32)), .unset] [(.ref xc_12)]))
      refine own_st (fun t k => XS.aconstNull X37.here hx rfl (hb hby at_170) k) ?_
      show own_Go p e below K (T37.setTop (mkF m 171 #[.val (.int p1), .val (.int p2), .val (.int nc), .val (.int mu), .val (.ref b1), .val (.ref xc_12), .val (.ref xu_12), .val (.ref r19), .val (.int (1 : Int32)), .unset] [.null, (.ref xc_12)]))
      obtain ⟨cq38, kq38, qv38a, qv38b, qv38c⟩ := isOf hZ e37 f28.1
      obtain ⟨_, _, ⟨T38, L38, k38, n38⟩, -, X38, ⟨Lc38, hQ38, l38, y38, z38⟩, st38⟩ := X37.interfaceBack hx (xi := (⟨"java/util/List", "add", "(Ljava/lang/Object;)Z"⟩ : MethodName)) (y := (⟨"java/util/ArrayList", "add", "(Ljava/lang/Object;)Z"⟩ : MethodName)) hown (mvT hZ (hw _ (List.mem_of_getElem? (i := 77) rfl))) (mvT hZ (hw _ (List.mem_of_getElem? (i := 78) rfl))) (mvT hZ (hw _ (List.mem_of_getElem? (i := 79) rfl))) (mvT hZ (hw _ (List.mem_of_getElem? (i := 80) rfl))) (mvT hZ (hw _ (List.mem_of_getElem? (i := 81) rfl))) (mvT hZ (hw _ (List.mem_of_getElem? (i := 82) rfl))) (mvT hZ (hw _ (List.mem_of_getElem? (i := 83) rfl))) (mvT hZ (hw _ (List.mem_of_getElem? (i := 84) rfl))) (by decide) (backOf (W := 0) (rm11 l Z a0 hw [] xc_12 (xd) (xk) (nc) (bj) T19.heap n0 Z19 g_xc_12 g_bj (Ne.symm ne_xd_xc_12) f28 f29 f30 SD ⟨Bn.1, by omega⟩) hZ (hw _ (List.mem_of_getElem? (i := 85) rfl)) (hw _ (List.mem_of_getElem? (i := 11) rfl)) (by decide) (by decide)) qv38a qv38b qv38c (g := (mkF m 171 #[.val (.int p1), .val (.int p2), .val (.int nc), .val (.int mu), .val (.ref b1), .val (.ref xc_12), .val (.ref xu_12), .val (.ref r19), .val (.int (1 : Int32)), .unset] [.null, (.ref xc_12)])) rfl (by rw [hml]; rfl) (Steps.refl _) (argsL := [.null]) (rest := []) (lenOf pd_0_2 rfl) rfl (by show 2 * 0 + _ ≤ _; exact Nat.le_of_eq rfl) (hb hby at_171) (fun _ _ => ⟨rfl, e37, (by decide : 12 + 1 ≤ _), (by decide : 95 + 10 ≤ _)⟩)
      dsimp only [Pt.U, Pt.locs, Pt.cells, Pt.slots] at X38 l38 y38 z38 st38 hQ38
      subst l38 y38 z38
      obtain ⟨r38, yb_38, rfl, hr38, N38q, Kq38, p38_0, pp38_0⟩ := hQ38
      have N38 := Fr.app N37 N38q
      have ne_b1_yb_38 : b1 ≠ yb_38 := own_ney pp38_0 ne_b1_bj f20.lt
      have ne_bk_yb_38 : bk ≠ yb_38 := own_ney pp38_0 (Ne.symm ne_bj_bk) f27.ltb
      have ne_r19_yb_38 : r19 ≠ yb_38 := own_ney pp38_0 (Ne.symm ne_bj_r19) p19_0.lt
      have ne_xd_yb_38 : xd ≠ yb_38 := own_ney pp38_0 ne_xd_bj f29.lt
      have ne_xu_12_yb_38 : xu_12 ≠ yb_38 := own_ney pp38_0 ne_xu_12_bj f27.lta
      have g_yb_38 : n0 ≤ yb_38 := own_gy pp38_0 g_bj Z19
      have f39 : Exa Z T38.heap b1 "com/example/coverbill/coverbill/charge/PriceItemChanges" := f20.keep Kq38
      have f40 : Fld Z T38.heap b1 "com/example/coverbill/coverbill/charge/PriceItemChanges" "created" "Ljava/util/List;" (.ref xc_12) := f21.keep Kq38 (ninS ne_b1_xc_12 (ninS ne_b1_bj nin0))
      have f41 : Fld Z T38.heap b1 "com/example/coverbill/coverbill/charge/PriceItemChanges" "updated" "Ljava/util/List;" (.ref xu_12) := f22.keep Kq38 (ninS ne_b1_xc_12 (ninS ne_b1_bj nin0))
      have f42 : Fld Z T38.heap b1 "com/example/coverbill/coverbill/charge/PriceItemChanges" "complete" "I" (.int (0 : Int32)) := f23.keep Kq38 (ninS ne_b1_xc_12 (ninS ne_b1_bj nin0))
      have f43 : Fld Z T38.heap b1 "com/example/coverbill/coverbill/charge/PriceItemChanges" "failed" "I" (.int (0 : Int32)) := f24.keep Kq38 (ninS ne_b1_xc_12 (ninS ne_b1_bj nin0))
      have f44 : Fld Z T38.heap b1 "com/example/coverbill/coverbill/charge/PriceItemChanges" "endDatesChanged" "I" (.int (0 : Int32)) := f25.keep Kq38 (ninS ne_b1_xc_12 (ninS ne_b1_bj nin0))
      have f45 : Fld Z T38.heap b1 "com/example/coverbill/coverbill/charge/PriceItemChanges" "canceled" "I" (.int (0 : Int32)) := f26.keep Kq38 (ninS ne_b1_xc_12 (ninS ne_b1_bj nin0))
      have f46 : own_L Z T38.heap xu_12 mu bk xd := f27.keep Kq38 (ninS (Ne.symm ne_xc_12_xu_12) (ninS ne_xu_12_bj nin0)) (ninS (Ne.symm ne_xc_12_bk) (ninS (Ne.symm ne_bj_bk) nin0))
      have f47 : Arv Z T38.heap xd xk (.object "java/lang/Object") (0 : Int32) [] .null := f29.keep Kq38 (ninS ne_xd_xc_12 (ninS ne_xd_bj nin0))
      have f48 : Old Z n0 T38.heap := f30.keep Kq38 (allS (P := fun x => n0 ≤ x) g_xc_12 (allS (P := fun x => n0 ≤ x) g_bj all0))
      have f49 : Exa Z T38.heap r19 "com/example/coverbill/coverbill/charge/ChargeRunResult" := p19_0.keep Kq38
      have f50 : Fld Z T38.heap r19 "com/example/coverbill/coverbill/charge/ChargeRunResult" "complete" "I" (.int (0 : Int32)) := p19_1.keep Kq38 (ninS (Ne.symm ne_xc_12_r19) (ninS (Ne.symm ne_bj_r19) nin0))
      have f51 : Fld Z T38.heap r19 "com/example/coverbill/coverbill/charge/ChargeRunResult" "error" "I" (.int (0 : Int32)) := p19_2.keep Kq38 (ninS (Ne.symm ne_xc_12_r19) (ninS (Ne.symm ne_bj_r19) nin0))
      have f52 : Fld Z T38.heap r19 "com/example/coverbill/coverbill/charge/ChargeRunResult" "chargesCreated" "I" (.int y_19) := p19_3.keep Kq38 (ninS (Ne.symm ne_xc_12_r19) (ninS (Ne.symm ne_bj_r19) nin0))
      have f53 : Fld Z T38.heap r19 "com/example/coverbill/coverbill/charge/ChargeRunResult" "endDatesChanged" "I" (.int (0 : Int32)) := p19_4.keep Kq38 (ninS (Ne.symm ne_xc_12_r19) (ninS (Ne.symm ne_bj_r19) nin0))
      have f54 : Fld Z T38.heap r19 "com/example/coverbill/coverbill/charge/ChargeRunResult" "chargesCanceled" "I" (.int (0 : Int32)) := p19_5.keep Kq38 (ninS (Ne.symm ne_xc_12_r19) (ninS (Ne.symm ne_bj_r19) nin0))
      have Z38 : n0 ≤ T38.heap.size := Nat.le_trans Z19 Kq38.1
      refine own_tr st38 ?_
      show own_Go p e below K (T38.setTop (mkF m 176 #[.val (.int p1), .val (.int p2), .val (.int nc), .val (.int mu), .val (.ref b1), .val (.ref xc_12), .val (.ref xu_12), .val (.ref r19), .val (.int (1 : Int32)), .unset] [(.int r38)]))
      refine own_st (fun t k => XS.pop X38.here hx rfl (hb hby at_176) rfl rfl k) ?_
      show own_Go p e below K (T38.setTop (mkF m 177 #[.val (.int p1), .val (.int p2), .val (.int nc), .val (.int mu), .val (.ref b1), .val (.ref xc_12), .val (.ref xu_12), .val (.ref r19), .val (.int (1 : Int32)), .unset] []))
      have Exp38_0 := p38_0.1
      have Fsp38_0 := p38_0.2.1
      refine own_st (fun t k => XS.aload X38.here hx rfl (hb hby at_177) rfl rfl k) ?_
      show own_Go p e below K (T38.setTop (mkF m 179 #[.val (.int p1), .val (.int p2), .val (.int nc), .val (.int mu), .val (.ref b1), .val (.ref xc_12), .val (.ref xu_12), .val (.ref r19), .val (.int (1 : Int32)), .unset] [(.ref b1)]))
      obtain ⟨cq55, kq55, qv55a, qv55b, qv55c⟩ := isOf hZ rfl f39
      obtain ⟨_, _, ⟨T55, L55, k55, n55⟩, -, X55, ⟨Lc55, hQ55, l55, y55, z55⟩, st55⟩ := X38.virtualBack hx (y := (⟨"com/example/coverbill/coverbill/charge/PriceItemChanges", "counted", "()Lcom/example/coverbill/coverbill/charge/ChargeRunResult;"⟩ : MethodName)) (z := (⟨"com/example/coverbill/coverbill/charge/PriceItemChanges", "counted", "()Lcom/example/coverbill/coverbill/charge/ChargeRunResult;"⟩ : MethodName)) hown (mvT hZ (hw _ (List.mem_of_getElem? (i := 111) rfl))) (mvT hZ (hw _ (List.mem_of_getElem? (i := 112) rfl))) (notFace_of_selects (args := #[]) (mvT hZ (hw _ (List.mem_of_getElem? (i := 114) rfl)))) (mvT hZ (hw _ (List.mem_of_getElem? (i := 114) rfl))) (mvT hZ (hw _ (List.mem_of_getElem? (i := 113) rfl))) (by decide) (backOf (W := 0) (rm16 l Z a0 hw [] b1 (xc_12) ((nc + (1 : Int32))) T38.heap n0 Z38 f42 f43 f44 f45 f40 Exp38_0 Fsp38_0) hZ (hw _ (List.mem_of_getElem? (i := 115) rfl)) (hw _ (List.mem_of_getElem? (i := 2) rfl)) (by decide) (by decide)) qv55a qv55c (g := (mkF m 179 #[.val (.int p1), .val (.int p2), .val (.int nc), .val (.int mu), .val (.ref b1), .val (.ref xc_12), .val (.ref xu_12), .val (.ref r19), .val (.int (1 : Int32)), .unset] [(.ref b1)])) rfl (by rw [hml]; rfl) (Steps.refl _) (argsL := []) (rest := []) (lenOf pd_0_7 rfl) rfl (by show 2 * 0 + _ ≤ _; exact Nat.le_of_eq rfl) (hb hby at_179) (fun _ _ => ⟨rfl, rfl, (by decide : 13 + 1 ≤ _), (by decide : 105 + 5 ≤ _)⟩)
      dsimp only [Pt.U, Pt.locs, Pt.cells, Pt.slots] at X55 l55 y55 z55 st55 hQ55
      subst l55 y55 z55
      obtain ⟨r55, y_55, rfl, hr55, fr55, N55q, Kq55, p55_0, p55_1, p55_2, p55_3, p55_4, p55_5, pp55_0⟩ := hQ55
      have N55 := Fr.app N38 N55q
      have ne_b1_r55 : b1 ≠ r55 := Nat.ne_of_lt (Nat.lt_of_lt_of_le f39.lt fr55)
      have ne_bk_r55 : bk ≠ r55 := Nat.ne_of_lt (Nat.lt_of_lt_of_le f46.ltb fr55)
      have ne_r19_r55 : r19 ≠ r55 := Nat.ne_of_lt (Nat.lt_of_lt_of_le f49.lt fr55)
      have ne_xc_12_r55 : xc_12 ≠ r55 := Nat.ne_of_lt (Nat.lt_of_lt_of_le p38_0.lta fr55)
      have ne_xd_r55 : xd ≠ r55 := Nat.ne_of_lt (Nat.lt_of_lt_of_le f47.lt fr55)
      have ne_xu_12_r55 : xu_12 ≠ r55 := Nat.ne_of_lt (Nat.lt_of_lt_of_le f46.lta fr55)
      have ne_yb_38_r55 : yb_38 ≠ r55 := Nat.ne_of_lt (Nat.lt_of_lt_of_le p38_0.ltb fr55)
      have g_r55 : n0 ≤ r55 := Nat.le_trans Z38 fr55
      have f56 : Exa Z T55.heap b1 "com/example/coverbill/coverbill/charge/PriceItemChanges" := f39.keep Kq55
      have f57 : Fld Z T55.heap b1 "com/example/coverbill/coverbill/charge/PriceItemChanges" "created" "Ljava/util/List;" (.ref xc_12) := f40.keep Kq55 nin0
      have f58 : Fld Z T55.heap b1 "com/example/coverbill/coverbill/charge/PriceItemChanges" "updated" "Ljava/util/List;" (.ref xu_12) := f41.keep Kq55 nin0
      have f59 : Fld Z T55.heap b1 "com/example/coverbill/coverbill/charge/PriceItemChanges" "complete" "I" (.int (0 : Int32)) := f42.keep Kq55 nin0
      have f60 : Fld Z T55.heap b1 "com/example/coverbill/coverbill/charge/PriceItemChanges" "failed" "I" (.int (0 : Int32)) := f43.keep Kq55 nin0
      have f61 : Fld Z T55.heap b1 "com/example/coverbill/coverbill/charge/PriceItemChanges" "endDatesChanged" "I" (.int (0 : Int32)) := f44.keep Kq55 nin0
      have f62 : Fld Z T55.heap b1 "com/example/coverbill/coverbill/charge/PriceItemChanges" "canceled" "I" (.int (0 : Int32)) := f45.keep Kq55 nin0
      have f63 : own_L Z T55.heap xu_12 mu bk xd := f46.keep Kq55 nin0 nin0
      have f64 : Arv Z T55.heap xd xk (.object "java/lang/Object") (0 : Int32) [] .null := f47.keep Kq55 nin0
      have f65 : Old Z n0 T55.heap := f48.keep Kq55 all0
      have f66 : Exa Z T55.heap r19 "com/example/coverbill/coverbill/charge/ChargeRunResult" := f49.keep Kq55
      have f67 : Fld Z T55.heap r19 "com/example/coverbill/coverbill/charge/ChargeRunResult" "complete" "I" (.int (0 : Int32)) := f50.keep Kq55 nin0
      have f68 : Fld Z T55.heap r19 "com/example/coverbill/coverbill/charge/ChargeRunResult" "error" "I" (.int (0 : Int32)) := f51.keep Kq55 nin0
      have f69 : Fld Z T55.heap r19 "com/example/coverbill/coverbill/charge/ChargeRunResult" "chargesCreated" "I" (.int y_19) := f52.keep Kq55 nin0
      have f70 : Fld Z T55.heap r19 "com/example/coverbill/coverbill/charge/ChargeRunResult" "endDatesChanged" "I" (.int (0 : Int32)) := f53.keep Kq55 nin0
      have f71 : Fld Z T55.heap r19 "com/example/coverbill/coverbill/charge/ChargeRunResult" "chargesCanceled" "I" (.int (0 : Int32)) := f54.keep Kq55 nin0
      have f72 : own_L Z T55.heap xc_12 (nc + (1 : Int32)) yb_38 xd := p38_0.keep Kq55 nin0 nin0
      have f73 : Exa Z T55.heap xc_12 "java/util/ArrayList" := Exp38_0.keep Kq55
      have f74 : Fld Z T55.heap xc_12 "java/util/ArrayList" "size" "I" (.int (nc + (1 : Int32))) := Fsp38_0.keep Kq55 nin0
      have Z55 : n0 ≤ T55.heap.size := Nat.le_trans Z38 Kq55.1
      refine own_tr st55 ?_
      show own_Go p e below K (T55.setTop (mkF m 182 #[.val (.int p1), .val (.int p2), .val (.int nc), .val (.int mu), .val (.ref b1), .val (.ref xc_12), .val (.ref xu_12), .val (.ref r19), .val (.int (1 : Int32)), .unset] [(.ref r55)]))
      refine own_st (fun t k => XS.astore X55.here hx rfl (hb hby at_182) rfl rfl (l' := #[.val (.int p1), .val (.int p2), .val (.int nc), .val (.int mu), .val (.ref b1), .val (.ref xc_12), .val (.ref xu_12), .val (.ref r19), .val (.int (1 : Int32)), .val (.ref r55)]) rfl k) ?_
      show own_Go p e below K (T55.setTop (mkF m 184 #[.val (.int p1), .val (.int p2), .val (.int nc), .val (.int mu), .val (.ref b1), .val (.ref xc_12), .val (.ref xu_12), .val (.ref r19), .val (.int (1 : Int32)), .val (.ref r55)] []))
      refine own_st (fun t k => XS.iload X55.here hx rfl (hb hby at_184) rfl k) ?_
      show own_Go p e below K (T55.setTop (mkF m 186 #[.val (.int p1), .val (.int p2), .val (.int nc), .val (.int mu), .val (.ref b1), .val (.ref xc_12), .val (.ref xu_12), .val (.ref r19), .val (.int (1 : Int32)), .val (.ref r55)] [(.int (1 : Int32))]))
      refine own_st (fun t k => XS.ifNo X55.here hx rfl (hb hby at_186) rfl ((if0 _ _).trans (feq (by decide : ¬ ((1 : Int32) = (0 : Int32)))).1) k) ?_
      show own_Go p e below K (T55.setTop (mkF m 189 #[.val (.int p1), .val (.int p2), .val (.int nc), .val (.int mu), .val (.ref b1), .val (.ref xc_12), .val (.ref xu_12), .val (.ref r19), .val (.int (1 : Int32)), .val (.ref r55)] []))
      refine own_st (fun t k => XS.aload X55.here hx rfl (hb hby at_189) rfl rfl k) ?_
      show own_Go p e below K (T55.setTop (mkF m 191 #[.val (.int p1), .val (.int p2), .val (.int nc), .val (.int mu), .val (.ref b1), .val (.ref xc_12), .val (.ref xu_12), .val (.ref r19), .val (.int (1 : Int32)), .val (.ref r55)] [(.ref r55)]))
      obtain ⟨cq75, kq75, qv75a, qv75b, qv75c⟩ := isOf hZ rfl p55_0
      obtain ⟨_, _, ⟨T75, L75, k75, n75⟩, -, X75, ⟨Lc75, hQ75, l75, y75, z75⟩, st75⟩ := X55.virtualBack hx (y := (⟨"com/example/coverbill/coverbill/charge/ChargeRunResult", "chargesCreated", "()I"⟩ : MethodName)) (z := (⟨"com/example/coverbill/coverbill/charge/ChargeRunResult", "chargesCreated", "()I"⟩ : MethodName)) hown (mvT hZ (hw _ (List.mem_of_getElem? (i := 149) rfl))) (mvT hZ (hw _ (List.mem_of_getElem? (i := 150) rfl))) (notFace_of_selects (args := #[]) (mvT hZ (hw _ (List.mem_of_getElem? (i := 152) rfl)))) (mvT hZ (hw _ (List.mem_of_getElem? (i := 152) rfl))) (mvT hZ (hw _ (List.mem_of_getElem? (i := 151) rfl))) (by decide) (backOf (W := 0) (rm19 l Z a0 hw [] r55 (y_55) T55.heap n0 Z55 p55_3) hZ (hw _ (List.mem_of_getElem? (i := 153) rfl)) (hw _ (List.mem_of_getElem? (i := 118) rfl)) (by decide) (by decide)) qv75a qv75c (g := (mkF m 191 #[.val (.int p1), .val (.int p2), .val (.int nc), .val (.int mu), .val (.ref b1), .val (.ref xc_12), .val (.ref xu_12), .val (.ref r19), .val (.int (1 : Int32)), .val (.ref r55)] [(.ref r55)])) rfl (by rw [hml]; rfl) (Steps.refl _) (argsL := []) (rest := []) (lenOf pd_0_8 rfl) rfl (by show 2 * 0 + _ ≤ _; exact Nat.le_of_eq rfl) (hb hby at_191) (fun _ _ => ⟨rfl, rfl, (by decide : 14 + 0 ≤ _), (by decide : 110 + 0 ≤ _)⟩)
      dsimp only [Pt.U, Pt.locs, Pt.cells, Pt.slots] at X75 l75 y75 z75 st75 hQ75
      subst l75 y75 z75
      obtain ⟨r75, rfl, hr75, N75q, e75⟩ := hQ75
      have N75 := Fr.app N55 N75q
      refine own_tr st75 ?_
      show own_Go p e below K (T75.setTop (mkF m 194 #[.val (.int p1), .val (.int p2), .val (.int nc), .val (.int mu), .val (.ref b1), .val (.ref xc_12), .val (.ref xu_12), .val (.ref r19), .val (.int (1 : Int32)), .val (.ref r55)] [(.int r75)]))
      refine own_st (fun t k => XS.iloadN X75.here hx rfl (hb hby at_194) rfl k) ?_
      show own_Go p e below K (T75.setTop (mkF m 195 #[.val (.int p1), .val (.int p2), .val (.int nc), .val (.int mu), .val (.ref b1), .val (.ref xc_12), .val (.ref xu_12), .val (.ref r19), .val (.int (1 : Int32)), .val (.ref r55)] [(.int nc), (.int r75)]))
      refine own_st (fun t k => XS.iconst X75.here hx rfl (hb hby at_195) k) ?_
      show own_Go p e below K (T75.setTop (mkF m 196 #[.val (.int p1), .val (.int p2), .val (.int nc), .val (.int mu), .val (.ref b1), .val (.ref xc_12), .val (.ref xu_12), .val (.ref r19), .val (.int (1 : Int32)), .val (.ref r55)] [(.int (1 : Int32)), (.int nc), (.int r75)]))
      refine own_st (fun t k => XS.iadd X75.here hx rfl (hb hby at_196) rfl k) ?_
      show own_Go p e below K (T75.setTop (mkF m 197 #[.val (.int p1), .val (.int p2), .val (.int nc), .val (.int mu), .val (.ref b1), .val (.ref xc_12), .val (.ref xu_12), .val (.ref r19), .val (.int (1 : Int32)), .val (.ref r55)] [(.int (nc + (1 : Int32))), (.int r75)]))
      refine own_st (fun t k => XS.icmpNo X75.here hx rfl (hb hby at_197) rfl (teq (hr75.trans pp55_0 : r75 = (nc + (1 : Int32)))).2 k) ?_
      show own_Go p e below K (T75.setTop (mkF m 200 #[.val (.int p1), .val (.int p2), .val (.int nc), .val (.int mu), .val (.ref b1), .val (.ref xc_12), .val (.ref xu_12), .val (.ref r19), .val (.int (1 : Int32)), .val (.ref r55)] []))
      refine own_st (fun t k => XS.iconst X75.here hx rfl (hb hby at_200) k) ?_
      show own_Go p e below K (T75.setTop (mkF m 201 #[.val (.int p1), .val (.int p2), .val (.int nc), .val (.int mu), .val (.ref b1), .val (.ref xc_12), .val (.ref xu_12), .val (.ref r19), .val (.int (1 : Int32)), .val (.ref r55)] [(.int (1 : Int32))]))
      refine own_st (fun t k => XS.goto X75.here hx rfl (pc0 := 201) (pc' := 205) rfl (hb hby at_201) (by decide) (by decide) k) ?_
      show own_Go p e below K (T75.setTop (mkF m 205 #[.val (.int p1), .val (.int p2), .val (.int nc), .val (.int mu), .val (.ref b1), .val (.ref xc_12), .val (.ref xu_12), .val (.ref r19), .val (.int (1 : Int32)), .val (.ref r55)] [(.int (1 : Int32))]))
      obtain ⟨fs, hr, hrun, hended, hW, hsame⟩ := X75.leave (v := some (.int (nar .boolean (1 : Int32)))) (fun h => by rw [Bd.returns] at h; cases h)
      refine ⟨_, retN X75 hx (t := .boolean) Bd.returns (by simp) (hb hby at_205) hr, fin _ _ _ hrun hended ?_ ⟨⟨_, rfl⟩, hW, hsame.mono (by decide) (by decide)⟩⟩
      show Q0 Z p1 p2 xd xk h0 n0 _ T75.heap _
      rw [e75]
      exact ⟨rfl, N75⟩
    refine own_st (fun t k => XS.iloadN X17.here hx rfl (hb hby at_72) rfl k) ?_
    show own_Go p e below K (T17.setTop (mkF m 73 #[.val (.int p1), .val (.int p2), .val (.int nc), .val (.int mu), .val (.ref b1), .val (.ref xc_12), .val (.ref xu_12), .unset, .unset, .unset] [(.int mu)]))
    by_cases hc73 : (0 : Int32) < mu
    · refine own_st (fun t k => XS.ifNo X17.here hx rfl (hb hby at_73) rfl ((if0 _ _).trans (tlt hc73).2.2.2) k) ?_
      show own_Go p e below K (T17.setTop (mkF m 76 #[.val (.int p1), .val (.int p2), .val (.int nc), .val (.int mu), .val (.ref b1), .val (.ref xc_12), .val (.ref xu_12), .unset, .unset, .unset] []))
      refine own_st (fun t k => XS.aload X17.here hx rfl (hb hby at_76) rfl rfl k) ?_
      show own_Go p e below K (T17.setTop (mkF m 78 #[.val (.int p1), .val (.int p2), .val (.int nc), .val (.int mu), .val (.ref b1), .val (.ref xc_12), .val (.ref xu_12), .unset, .unset, .unset] [(.ref xu_12)]))
      refine own_st (fun t k => XS.aconstNull X17.here hx rfl (hb hby at_78) k) ?_
      show own_Go p e below K (T17.setTop (mkF m 79 #[.val (.int p1), .val (.int p2), .val (.int nc), .val (.int mu), .val (.ref b1), .val (.ref xc_12), .val (.ref xu_12), .unset, .unset, .unset] [.null, (.ref xu_12)]))
      obtain ⟨cq76, kq76, qv76a, qv76b, qv76c⟩ := isOf hZ e17 F17_8.1
      obtain ⟨_, _, ⟨T76, L76, k76, n76⟩, -, X76, ⟨Lc76, hQ76, l76, y76, z76⟩, st76⟩ := X17.interfaceBack hx (xi := (⟨"java/util/List", "add", "(Ljava/lang/Object;)Z"⟩ : MethodName)) (y := (⟨"java/util/ArrayList", "add", "(Ljava/lang/Object;)Z"⟩ : MethodName)) hown (mvT hZ (hw _ (List.mem_of_getElem? (i := 77) rfl))) (mvT hZ (hw _ (List.mem_of_getElem? (i := 78) rfl))) (mvT hZ (hw _ (List.mem_of_getElem? (i := 79) rfl))) (mvT hZ (hw _ (List.mem_of_getElem? (i := 80) rfl))) (mvT hZ (hw _ (List.mem_of_getElem? (i := 81) rfl))) (mvT hZ (hw _ (List.mem_of_getElem? (i := 82) rfl))) (mvT hZ (hw _ (List.mem_of_getElem? (i := 83) rfl))) (mvT hZ (hw _ (List.mem_of_getElem? (i := 84) rfl))) (by decide) (backOf (W := 0) (rm11 l Z a0 hw [] xu_12 (xd) (xk) ((0 : Int32)) (xu_12) hh17 n0 Z17 g_xu_12 g_xu_12 (Ne.symm ne_xd_xu_12) F17_8 F17_9 F17_10 SD ⟨by decide, by decide⟩) hZ (hw _ (List.mem_of_getElem? (i := 85) rfl)) (hw _ (List.mem_of_getElem? (i := 11) rfl)) (by decide) (by decide)) qv76a qv76b qv76c (g := (mkF m 79 #[.val (.int p1), .val (.int p2), .val (.int nc), .val (.int mu), .val (.ref b1), .val (.ref xc_12), .val (.ref xu_12), .unset, .unset, .unset] [.null, (.ref xu_12)])) rfl (by rw [hml]; rfl) (Steps.refl _) (argsL := [.null]) (rest := []) (lenOf pd_0_2 rfl) rfl (by show 2 * 0 + _ ≤ _; exact Nat.le_of_eq rfl) (hb hby at_79) (fun _ _ => ⟨rfl, e17, (by decide : 8 + 1 ≤ _), (by decide : 60 + 10 ≤ _)⟩)
      dsimp only [Pt.U, Pt.locs, Pt.cells, Pt.slots] at X76 l76 y76 z76 st76 hQ76
      subst l76 y76 z76
      obtain ⟨r76, yb_76, rfl, hr76, N76q, Kq76, p76_0, pp76_0⟩ := hQ76
      have N76 := Fr.app N17 N76q
      have ne_b1_yb_76 : b1 ≠ yb_76 := own_ney pp76_0 ne_b1_xu_12 F17_0.lt
      have ne_bj_yb_76 : bj ≠ yb_76 := own_ney pp76_0 (Ne.symm ne_xu_12_bj) F17_7.ltb
      have ne_xc_12_yb_76 : xc_12 ≠ yb_76 := own_ney pp76_0 ne_xc_12_xu_12 F17_7.lta
      have ne_xd_yb_76 : xd ≠ yb_76 := own_ney pp76_0 ne_xd_xu_12 F17_9.lt
      have g_yb_76 : n0 ≤ yb_76 := own_gy pp76_0 g_xu_12 Z17
      have f77 : Exa Z T76.heap b1 "com/example/coverbill/coverbill/charge/PriceItemChanges" := F17_0.keep Kq76
      have f78 : Fld Z T76.heap b1 "com/example/coverbill/coverbill/charge/PriceItemChanges" "created" "Ljava/util/List;" (.ref xc_12) := F17_1.keep Kq76 (ninS ne_b1_xu_12 (ninS ne_b1_xu_12 nin0))
      have f79 : Fld Z T76.heap b1 "com/example/coverbill/coverbill/charge/PriceItemChanges" "updated" "Ljava/util/List;" (.ref xu_12) := F17_2.keep Kq76 (ninS ne_b1_xu_12 (ninS ne_b1_xu_12 nin0))
      have f80 : Fld Z T76.heap b1 "com/example/coverbill/coverbill/charge/PriceItemChanges" "complete" "I" (.int (0 : Int32)) := F17_3.keep Kq76 (ninS ne_b1_xu_12 (ninS ne_b1_xu_12 nin0))
      have f81 : Fld Z T76.heap b1 "com/example/coverbill/coverbill/charge/PriceItemChanges" "failed" "I" (.int (0 : Int32)) := F17_4.keep Kq76 (ninS ne_b1_xu_12 (ninS ne_b1_xu_12 nin0))
      have f82 : Fld Z T76.heap b1 "com/example/coverbill/coverbill/charge/PriceItemChanges" "endDatesChanged" "I" (.int (0 : Int32)) := F17_5.keep Kq76 (ninS ne_b1_xu_12 (ninS ne_b1_xu_12 nin0))
      have f83 : Fld Z T76.heap b1 "com/example/coverbill/coverbill/charge/PriceItemChanges" "canceled" "I" (.int (0 : Int32)) := F17_6.keep Kq76 (ninS ne_b1_xu_12 (ninS ne_b1_xu_12 nin0))
      have f84 : own_L Z T76.heap xc_12 nc bj xd := F17_7.keep Kq76 (ninS ne_xc_12_xu_12 (ninS ne_xc_12_xu_12 nin0)) (ninS (Ne.symm ne_xu_12_bj) (ninS (Ne.symm ne_xu_12_bj) nin0))
      have f85 : Arv Z T76.heap xd xk (.object "java/lang/Object") (0 : Int32) [] .null := F17_9.keep Kq76 (ninS ne_xd_xu_12 (ninS ne_xd_xu_12 nin0))
      have f86 : Old Z n0 T76.heap := F17_10.keep Kq76 (allS (P := fun x => n0 ≤ x) g_xu_12 (allS (P := fun x => n0 ≤ x) g_xu_12 all0))
      have Z76 : n0 ≤ T76.heap.size := Nat.le_trans Z17 Kq76.1
      refine own_tr st76 ?_
      show own_Go p e below K (T76.setTop (mkF m 84 #[.val (.int p1), .val (.int p2), .val (.int nc), .val (.int mu), .val (.ref b1), .val (.ref xc_12), .val (.ref xu_12), .unset, .unset, .unset] [(.int r76)]))
      refine own_st (fun t k => XS.pop X76.here hx rfl (hb hby at_84) rfl rfl k) ?_
      show own_Go p e below K (T76.setTop (mkF m 85 #[.val (.int p1), .val (.int p2), .val (.int nc), .val (.int mu), .val (.ref b1), .val (.ref xc_12), .val (.ref xu_12), .unset, .unset, .unset] []))
      refine own_st (fun t k => XS.iloadN X76.here hx rfl (hb hby at_85) rfl k) ?_
      show own_Go p e below K (T76.setTop (mkF m 86 #[.val (.int p1), .val (.int p2), .val (.int nc), .val (.int mu), .val (.ref b1), .val (.ref xc_12), .val (.ref xu_12), .unset, .unset, .unset] [(.int mu)]))
      refine own_st (fun t k => XS.iconst X76.here hx rfl (hb hby at_86) k) ?_
      show own_Go p e below K (T76.setTop (mkF m 87 #[.val (.int p1), .val (.int p2), .val (.int nc), .val (.int mu), .val (.ref b1), .val (.ref xc_12), .val (.ref xu_12), .unset, .unset, .unset] [(.int (1 : Int32)), (.int mu)]))
      by_cases hc87 : (1 : Int32) < mu
      · refine own_st (fun t k => XS.icmpNo X76.here hx rfl (hb hby at_87) rfl (tlt hc87).2.2.2 k) ?_
        show own_Go p e below K (T76.setTop (mkF m 90 #[.val (.int p1), .val (.int p2), .val (.int nc), .val (.int mu), .val (.ref b1), .val (.ref xc_12), .val (.ref xu_12), .unset, .unset, .unset] []))
        refine own_st (fun t k => XS.aload X76.here hx rfl (hb hby at_90) rfl rfl k) ?_
        show own_Go p e below K (T76.setTop (mkF m 92 #[.val (.int p1), .val (.int p2), .val (.int nc), .val (.int mu), .val (.ref b1), .val (.ref xc_12), .val (.ref xu_12), .unset, .unset, .unset] [(.ref xu_12)]))
        refine own_st (fun t k => XS.aconstNull X76.here hx rfl (hb hby at_92) k) ?_
        show own_Go p e below K (T76.setTop (mkF m 93 #[.val (.int p1), .val (.int p2), .val (.int nc), .val (.int mu), .val (.ref b1), .val (.ref xc_12), .val (.ref xu_12), .unset, .unset, .unset] [.null, (.ref xu_12)]))
        obtain ⟨cq87, kq87, qv87a, qv87b, qv87c⟩ := isOf hZ rfl p76_0.1
        obtain ⟨_, _, ⟨T87, L87, k87, n87⟩, -, X87, ⟨Lc87, hQ87, l87, y87, z87⟩, st87⟩ := X76.interfaceBack hx (xi := (⟨"java/util/List", "add", "(Ljava/lang/Object;)Z"⟩ : MethodName)) (y := (⟨"java/util/ArrayList", "add", "(Ljava/lang/Object;)Z"⟩ : MethodName)) hown (mvT hZ (hw _ (List.mem_of_getElem? (i := 77) rfl))) (mvT hZ (hw _ (List.mem_of_getElem? (i := 78) rfl))) (mvT hZ (hw _ (List.mem_of_getElem? (i := 79) rfl))) (mvT hZ (hw _ (List.mem_of_getElem? (i := 80) rfl))) (mvT hZ (hw _ (List.mem_of_getElem? (i := 81) rfl))) (mvT hZ (hw _ (List.mem_of_getElem? (i := 82) rfl))) (mvT hZ (hw _ (List.mem_of_getElem? (i := 83) rfl))) (mvT hZ (hw _ (List.mem_of_getElem? (i := 84) rfl))) (by decide) (backOf (W := 0) (rm11 l Z a0 hw [] xu_12 (xd) (xk) (((0 : Int32) + (1 : Int32))) (yb_76) T76.heap n0 Z76 g_xu_12 g_yb_76 (Ne.symm ne_xd_xu_12) p76_0 f85 f86 SD ⟨by decide, by decide⟩) hZ (hw _ (List.mem_of_getElem? (i := 85) rfl)) (hw _ (List.mem_of_getElem? (i := 11) rfl)) (by decide) (by decide)) qv87a qv87b qv87c (g := (mkF m 93 #[.val (.int p1), .val (.int p2), .val (.int nc), .val (.int mu), .val (.ref b1), .val (.ref xc_12), .val (.ref xu_12), .unset, .unset, .unset] [.null, (.ref xu_12)])) rfl (by rw [hml]; rfl) (Steps.refl _) (argsL := [.null]) (rest := []) (lenOf pd_0_2 rfl) rfl (by show 2 * 0 + _ ≤ _; exact Nat.le_of_eq rfl) (hb hby at_93) (fun _ _ => ⟨rfl, rfl, (by decide : 9 + 1 ≤ _), (by decide : 70 + 10 ≤ _)⟩)
        dsimp only [Pt.U, Pt.locs, Pt.cells, Pt.slots] at X87 l87 y87 z87 st87 hQ87
        subst l87 y87 z87
        obtain ⟨r87, yb_87, rfl, hr87, N87q, Kq87, p87_0, pp87_0⟩ := hQ87
        have N87 := Fr.app N76 N87q
        have ne_b1_yb_87 : b1 ≠ yb_87 := own_ney pp87_0 ne_b1_yb_76 f77.lt
        have ne_bj_yb_87 : bj ≠ yb_87 := own_ney pp87_0 ne_bj_yb_76 f84.ltb
        have ne_xc_12_yb_87 : xc_12 ≠ yb_87 := own_ney pp87_0 ne_xc_12_yb_76 f84.lta
        have ne_xd_yb_87 : xd ≠ yb_87 := own_ney pp87_0 ne_xd_yb_76 f85.lt
        have g_yb_87 : n0 ≤ yb_87 := own_gy pp87_0 g_yb_76 Z76
        have f88 : Exa Z T87.heap b1 "com/example/coverbill/coverbill/charge/PriceItemChanges" := f77.keep Kq87
        have f89 : Fld Z T87.heap b1 "com/example/coverbill/coverbill/charge/PriceItemChanges" "created" "Ljava/util/List;" (.ref xc_12) := f78.keep Kq87 (ninS ne_b1_xu_12 (ninS ne_b1_yb_76 nin0))
        have f90 : Fld Z T87.heap b1 "com/example/coverbill/coverbill/charge/PriceItemChanges" "updated" "Ljava/util/List;" (.ref xu_12) := f79.keep Kq87 (ninS ne_b1_xu_12 (ninS ne_b1_yb_76 nin0))
        have f91 : Fld Z T87.heap b1 "com/example/coverbill/coverbill/charge/PriceItemChanges" "complete" "I" (.int (0 : Int32)) := f80.keep Kq87 (ninS ne_b1_xu_12 (ninS ne_b1_yb_76 nin0))
        have f92 : Fld Z T87.heap b1 "com/example/coverbill/coverbill/charge/PriceItemChanges" "failed" "I" (.int (0 : Int32)) := f81.keep Kq87 (ninS ne_b1_xu_12 (ninS ne_b1_yb_76 nin0))
        have f93 : Fld Z T87.heap b1 "com/example/coverbill/coverbill/charge/PriceItemChanges" "endDatesChanged" "I" (.int (0 : Int32)) := f82.keep Kq87 (ninS ne_b1_xu_12 (ninS ne_b1_yb_76 nin0))
        have f94 : Fld Z T87.heap b1 "com/example/coverbill/coverbill/charge/PriceItemChanges" "canceled" "I" (.int (0 : Int32)) := f83.keep Kq87 (ninS ne_b1_xu_12 (ninS ne_b1_yb_76 nin0))
        have f95 : own_L Z T87.heap xc_12 nc bj xd := f84.keep Kq87 (ninS ne_xc_12_xu_12 (ninS ne_xc_12_yb_76 nin0)) (ninS (Ne.symm ne_xu_12_bj) (ninS ne_bj_yb_76 nin0))
        have f96 : Arv Z T87.heap xd xk (.object "java/lang/Object") (0 : Int32) [] .null := f85.keep Kq87 (ninS ne_xd_xu_12 (ninS ne_xd_yb_76 nin0))
        have f97 : Old Z n0 T87.heap := f86.keep Kq87 (allS (P := fun x => n0 ≤ x) g_xu_12 (allS (P := fun x => n0 ≤ x) g_yb_76 all0))
        have Z87 : n0 ≤ T87.heap.size := Nat.le_trans Z76 Kq87.1
        refine own_tr st87 ?_
        show own_Go p e below K (T87.setTop (mkF m 98 #[.val (.int p1), .val (.int p2), .val (.int nc), .val (.int mu), .val (.ref b1), .val (.ref xc_12), .val (.ref xu_12), .unset, .unset, .unset] [(.int r87)]))
        refine own_st (fun t k => XS.pop X87.here hx rfl (hb hby at_98) rfl rfl k) ?_
        show own_Go p e below K (T87.setTop (mkF m 99 #[.val (.int p1), .val (.int p2), .val (.int nc), .val (.int mu), .val (.ref b1), .val (.ref xc_12), .val (.ref xu_12), .unset, .unset, .unset] []))
        refine own_st (fun t k => XS.iloadN X87.here hx rfl (hb hby at_99) rfl k) ?_
        show own_Go p e below K (T87.setTop (mkF m 100 #[.val (.int p1), .val (.int p2), .val (.int nc), .val (.int mu), .val (.ref b1), .val (.ref xc_12), .val (.ref xu_12), .unset, .unset, .unset] [(.int mu)]))
        refine own_st (fun t k => XS.iconst X87.here hx rfl (hb hby at_100) k) ?_
        show own_Go p e below K (T87.setTop (mkF m 101 #[.val (.int p1), .val (.int p2), .val (.int nc), .val (.int mu), .val (.ref b1), .val (.ref xc_12), .val (.ref xu_12), .unset, .unset, .unset] [(.int (2 : Int32)), (.int mu)]))
        by_cases hc101 : (2 : Int32) < mu
        · refine own_st (fun t k => XS.icmpNo X87.here hx rfl (hb hby at_101) rfl (tlt hc101).2.2.2 k) ?_
          show own_Go p e below K (T87.setTop (mkF m 104 #[.val (.int p1), .val (.int p2), .val (.int nc), .val (.int mu), .val (.ref b1), .val (.ref xc_12), .val (.ref xu_12), .unset, .unset, .unset] []))
          refine own_st (fun t k => XS.aload X87.here hx rfl (hb hby at_104) rfl rfl k) ?_
          show own_Go p e below K (T87.setTop (mkF m 106 #[.val (.int p1), .val (.int p2), .val (.int nc), .val (.int mu), .val (.ref b1), .val (.ref xc_12), .val (.ref xu_12), .unset, .unset, .unset] [(.ref xu_12)]))
          refine own_st (fun t k => XS.aconstNull X87.here hx rfl (hb hby at_106) k) ?_
          show own_Go p e below K (T87.setTop (mkF m 107 #[.val (.int p1), .val (.int p2), .val (.int nc), .val (.int mu), .val (.ref b1), .val (.ref xc_12), .val (.ref xu_12), .unset, .unset, .unset] [.null, (.ref xu_12)]))
          obtain ⟨cq98, kq98, qv98a, qv98b, qv98c⟩ := isOf hZ rfl p87_0.1
          obtain ⟨_, _, ⟨T98, L98, k98, n98⟩, -, X98, ⟨Lc98, hQ98, l98, y98, z98⟩, st98⟩ := X87.interfaceBack hx (xi := (⟨"java/util/List", "add", "(Ljava/lang/Object;)Z"⟩ : MethodName)) (y := (⟨"java/util/ArrayList", "add", "(Ljava/lang/Object;)Z"⟩ : MethodName)) hown (mvT hZ (hw _ (List.mem_of_getElem? (i := 77) rfl))) (mvT hZ (hw _ (List.mem_of_getElem? (i := 78) rfl))) (mvT hZ (hw _ (List.mem_of_getElem? (i := 79) rfl))) (mvT hZ (hw _ (List.mem_of_getElem? (i := 80) rfl))) (mvT hZ (hw _ (List.mem_of_getElem? (i := 81) rfl))) (mvT hZ (hw _ (List.mem_of_getElem? (i := 82) rfl))) (mvT hZ (hw _ (List.mem_of_getElem? (i := 83) rfl))) (mvT hZ (hw _ (List.mem_of_getElem? (i := 84) rfl))) (by decide) (backOf (W := 0) (rm11 l Z a0 hw [] xu_12 (xd) (xk) ((((0 : Int32) + (1 : Int32)) + (1 : Int32))) (yb_87) T87.heap n0 Z87 g_xu_12 g_yb_87 (Ne.symm ne_xd_xu_12) p87_0 f96 f97 SD ⟨by decide, by decide⟩) hZ (hw _ (List.mem_of_getElem? (i := 85) rfl)) (hw _ (List.mem_of_getElem? (i := 11) rfl)) (by decide) (by decide)) qv98a qv98b qv98c (g := (mkF m 107 #[.val (.int p1), .val (.int p2), .val (.int nc), .val (.int mu), .val (.ref b1), .val (.ref xc_12), .val (.ref xu_12), .unset, .unset, .unset] [.null, (.ref xu_12)])) rfl (by rw [hml]; rfl) (Steps.refl _) (argsL := [.null]) (rest := []) (lenOf pd_0_2 rfl) rfl (by show 2 * 0 + _ ≤ _; exact Nat.le_of_eq rfl) (hb hby at_107) (fun _ _ => ⟨rfl, rfl, (by decide : 10 + 1 ≤ _), (by decide : 80 + 10 ≤ _)⟩)
          dsimp only [Pt.U, Pt.locs, Pt.cells, Pt.slots] at X98 l98 y98 z98 st98 hQ98
          subst l98 y98 z98
          obtain ⟨r98, yb_98, rfl, hr98, N98q, Kq98, p98_0, pp98_0⟩ := hQ98
          have N98 := Fr.app N87 N98q
          have ne_b1_yb_98 : b1 ≠ yb_98 := own_ney pp98_0 ne_b1_yb_87 f88.lt
          have ne_bj_yb_98 : bj ≠ yb_98 := own_ney pp98_0 ne_bj_yb_87 f95.ltb
          have ne_xc_12_yb_98 : xc_12 ≠ yb_98 := own_ney pp98_0 ne_xc_12_yb_87 f95.lta
          have ne_xd_yb_98 : xd ≠ yb_98 := own_ney pp98_0 ne_xd_yb_87 f96.lt
          have g_yb_98 : n0 ≤ yb_98 := own_gy pp98_0 g_yb_87 Z87
          have f99 : Exa Z T98.heap b1 "com/example/coverbill/coverbill/charge/PriceItemChanges" := f88.keep Kq98
          have f100 : Fld Z T98.heap b1 "com/example/coverbill/coverbill/charge/PriceItemChanges" "created" "Ljava/util/List;" (.ref xc_12) := f89.keep Kq98 (ninS ne_b1_xu_12 (ninS ne_b1_yb_87 nin0))
          have f101 : Fld Z T98.heap b1 "com/example/coverbill/coverbill/charge/PriceItemChanges" "updated" "Ljava/util/List;" (.ref xu_12) := f90.keep Kq98 (ninS ne_b1_xu_12 (ninS ne_b1_yb_87 nin0))
          have f102 : Fld Z T98.heap b1 "com/example/coverbill/coverbill/charge/PriceItemChanges" "complete" "I" (.int (0 : Int32)) := f91.keep Kq98 (ninS ne_b1_xu_12 (ninS ne_b1_yb_87 nin0))
          have f103 : Fld Z T98.heap b1 "com/example/coverbill/coverbill/charge/PriceItemChanges" "failed" "I" (.int (0 : Int32)) := f92.keep Kq98 (ninS ne_b1_xu_12 (ninS ne_b1_yb_87 nin0))
          have f104 : Fld Z T98.heap b1 "com/example/coverbill/coverbill/charge/PriceItemChanges" "endDatesChanged" "I" (.int (0 : Int32)) := f93.keep Kq98 (ninS ne_b1_xu_12 (ninS ne_b1_yb_87 nin0))
          have f105 : Fld Z T98.heap b1 "com/example/coverbill/coverbill/charge/PriceItemChanges" "canceled" "I" (.int (0 : Int32)) := f94.keep Kq98 (ninS ne_b1_xu_12 (ninS ne_b1_yb_87 nin0))
          have f106 : own_L Z T98.heap xc_12 nc bj xd := f95.keep Kq98 (ninS ne_xc_12_xu_12 (ninS ne_xc_12_yb_87 nin0)) (ninS (Ne.symm ne_xu_12_bj) (ninS ne_bj_yb_87 nin0))
          have f107 : Arv Z T98.heap xd xk (.object "java/lang/Object") (0 : Int32) [] .null := f96.keep Kq98 (ninS ne_xd_xu_12 (ninS ne_xd_yb_87 nin0))
          have f108 : Old Z n0 T98.heap := f97.keep Kq98 (allS (P := fun x => n0 ≤ x) g_xu_12 (allS (P := fun x => n0 ≤ x) g_yb_87 all0))
          have Z98 : n0 ≤ T98.heap.size := Nat.le_trans Z87 Kq98.1
          refine own_tr st98 ?_
          show own_Go p e below K (T98.setTop (mkF m 112 #[.val (.int p1), .val (.int p2), .val (.int nc), .val (.int mu), .val (.ref b1), .val (.ref xc_12), .val (.ref xu_12), .unset, .unset, .unset] [(.int r98)]))
          refine own_st (fun t k => XS.pop X98.here hx rfl (hb hby at_112) rfl rfl k) ?_
          show own_Go p e below K (T98.setTop (mkF m 113 #[.val (.int p1), .val (.int p2), .val (.int nc), .val (.int mu), .val (.ref b1), .val (.ref xc_12), .val (.ref xu_12), .unset, .unset, .unset] []))
          exact J113 T98 _ _ (yb_98) (X98.more (by decide) (by decide)) rfl N98 Z98 f99 f100 f101 f102 f103 f104 f105 (p98_0.cast (own_z3 Bm hc101)) f106 f107 f108 ⟨ne_b1_yb_98, ne_xc_12_yb_98, ne_xd_yb_98, ne_bj_yb_98, g_yb_98⟩
        refine own_st (fun t k => XS.icmpYes X87.here hx rfl (pc0 := 101) (pc' := 113) rfl (hb hby at_101) rfl (flt hc101).2.2.2 (by decide) (by decide) k) ?_
        show own_Go p e below K (T87.setTop (mkF m 113 #[.val (.int p1), .val (.int p2), .val (.int nc), .val (.int mu), .val (.ref b1), .val (.ref xc_12), .val (.ref xu_12), .unset, .unset, .unset] []))
        exact J113 T87 _ _ (yb_87) (X87.more (by decide) (by decide)) rfl N87 Z87 f88 f89 f90 f91 f92 f93 f94 (p87_0.cast (own_z2 Bm hc87 hc101)) f95 f96 f97 ⟨ne_b1_yb_87, ne_xc_12_yb_87, ne_xd_yb_87, ne_bj_yb_87, g_yb_87⟩
      refine own_st (fun t k => XS.icmpYes X76.here hx rfl (pc0 := 87) (pc' := 99) rfl (hb hby at_87) rfl (flt hc87).2.2.2 (by decide) (by decide) k) ?_
      show own_Go p e below K (T76.setTop (mkF m 99 #[.val (.int p1), .val (.int p2), .val (.int nc), .val (.int mu), .val (.ref b1), .val (.ref xc_12), .val (.ref xu_12), .unset, .unset, .unset] []))
      refine own_st (fun t k => XS.iloadN X76.here hx rfl (hb hby at_99) rfl k) ?_
      show own_Go p e below K (T76.setTop (mkF m 100 #[.val (.int p1), .val (.int p2), .val (.int nc), .val (.int mu), .val (.ref b1), .val (.ref xc_12), .val (.ref xu_12), .unset, .unset, .unset] [(.int mu)]))
      refine own_st (fun t k => XS.iconst X76.here hx rfl (hb hby at_100) k) ?_
      show own_Go p e below K (T76.setTop (mkF m 101 #[.val (.int p1), .val (.int p2), .val (.int nc), .val (.int mu), .val (.ref b1), .val (.ref xc_12), .val (.ref xu_12), .unset, .unset, .unset] [(.int (2 : Int32)), (.int mu)]))
      refine own_st (fun t k => XS.icmpYes X76.here hx rfl (pc0 := 101) (pc' := 113) rfl (hb hby at_101) rfl (flt (own_lt2 hc87 : ¬ ((2 : Int32) < mu))).2.2.2 (by decide) (by decide) k) ?_
      show own_Go p e below K (T76.setTop (mkF m 113 #[.val (.int p1), .val (.int p2), .val (.int nc), .val (.int mu), .val (.ref b1), .val (.ref xc_12), .val (.ref xu_12), .unset, .unset, .unset] []))
      exact J113 T76 _ _ (yb_76) (X76.more (by decide) (by decide)) rfl N76 Z76 f77 f78 f79 f80 f81 f82 f83 (p76_0.cast (own_z1 Bm hc73 hc87)) f84 f85 f86 ⟨ne_b1_yb_76, ne_xc_12_yb_76, ne_xd_yb_76, ne_bj_yb_76, g_yb_76⟩
    refine own_st (fun t k => XS.ifYes X17.here hx rfl (pc0 := 73) (pc' := 85) rfl (hb hby at_73) rfl ((if0 _ _).trans (flt hc73).2.2.2) (by decide) (by decide) k) ?_
    show own_Go p e below K (T17.setTop (mkF m 85 #[.val (.int p1), .val (.int p2), .val (.int nc), .val (.int mu), .val (.ref b1), .val (.ref xc_12), .val (.ref xu_12), .unset, .unset, .unset] []))
    refine own_st (fun t k => XS.iloadN X17.here hx rfl (hb hby at_85) rfl k) ?_
    show own_Go p e below K (T17.setTop (mkF m 86 #[.val (.int p1), .val (.int p2), .val (.int nc), .val (.int mu), .val (.ref b1), .val (.ref xc_12), .val (.ref xu_12), .unset, .unset, .unset] [(.int mu)]))
    refine own_st (fun t k => XS.iconst X17.here hx rfl (hb hby at_86) k) ?_
    show own_Go p e below K (T17.setTop (mkF m 87 #[.val (.int p1), .val (.int p2), .val (.int nc), .val (.int mu), .val (.ref b1), .val (.ref xc_12), .val (.ref xu_12), .unset, .unset, .unset] [(.int (1 : Int32)), (.int mu)]))
    refine own_st (fun t k => XS.icmpYes X17.here hx rfl (pc0 := 87) (pc' := 99) rfl (hb hby at_87) rfl (flt (own_lt1 hc73 : ¬ ((1 : Int32) < mu))).2.2.2 (by decide) (by decide) k) ?_
    show own_Go p e below K (T17.setTop (mkF m 99 #[.val (.int p1), .val (.int p2), .val (.int nc), .val (.int mu), .val (.ref b1), .val (.ref xc_12), .val (.ref xu_12), .unset, .unset, .unset] []))
    refine own_st (fun t k => XS.iloadN X17.here hx rfl (hb hby at_99) rfl k) ?_
    show own_Go p e below K (T17.setTop (mkF m 100 #[.val (.int p1), .val (.int p2), .val (.int nc), .val (.int mu), .val (.ref b1), .val (.ref xc_12), .val (.ref xu_12), .unset, .unset, .unset] [(.int mu)]))
    refine own_st (fun t k => XS.iconst X17.here hx rfl (hb hby at_100) k) ?_
    show own_Go p e below K (T17.setTop (mkF m 101 #[.val (.int p1), .val (.int p2), .val (.int nc), .val (.int mu), .val (.ref b1), .val (.ref xc_12), .val (.ref xu_12), .unset, .unset, .unset] [(.int (2 : Int32)), (.int mu)]))
    refine own_st (fun t k => XS.icmpYes X17.here hx rfl (pc0 := 101) (pc' := 113) rfl (hb hby at_101) rfl (flt (own_lt2 (own_lt1 hc73) : ¬ ((2 : Int32) < mu))).2.2.2 (by decide) (by decide) k) ?_
    show own_Go p e below K (T17.setTop (mkF m 113 #[.val (.int p1), .val (.int p2), .val (.int nc), .val (.int mu), .val (.ref b1), .val (.ref xc_12), .val (.ref xu_12), .unset, .unset, .unset] []))
    exact J113 T17 _ _ (xu_12) (X17.more (by decide) (by decide)) e17 N17 Z17 F17_0 F17_1 F17_2 F17_3 F17_4 F17_5 F17_6 (F17_8.cast (own_z0 Bm hc73)) F17_7 F17_9 F17_10 ⟨ne_b1_xu_12, ne_xc_12_xu_12, ne_xd_xu_12, (Ne.symm ne_xu_12_bj), g_xu_12⟩
  refine own_st (fun t k => XS.iloadN X16.here hx rfl (hb hby at_31) rfl k) ?_
  show own_Go p e below K (T16.setTop (mkF m 32 #[.val (.int p1), .val (.int p2), .val (.int nc), .val (.int mu), .val (.ref b1), .val (.ref xc_12), .val (.ref xu_12), .unset, .unset, .unset] [(.int nc)]))
  by_cases hc32 : (0 : Int32) < nc
  · refine own_st (fun t k => XS.ifNo X16.here hx rfl (hb hby at_32) rfl ((if0 _ _).trans (tlt hc32).2.2.2) k) ?_
    show own_Go p e below K (T16.setTop (mkF m 35 #[.val (.int p1), .val (.int p2), .val (.int nc), .val (.int mu), .val (.ref b1), .val (.ref xc_12), .val (.ref xu_12), .unset, .unset, .unset] []))
    refine own_st (fun t k => XS.aload X16.here hx rfl (hb hby at_35) rfl rfl k) ?_
    show own_Go p e below K (T16.setTop (mkF m 37 #[.val (.int p1), .val (.int p2), .val (.int nc), .val (.int mu), .val (.ref b1), .val (.ref xc_12), .val (.ref xu_12), .unset, .unset, .unset] [(.ref xc_12)]))
    refine own_st (fun t k => XS.aconstNull X16.here hx rfl (hb hby at_37) k) ?_
    show own_Go p e below K (T16.setTop (mkF m 38 #[.val (.int p1), .val (.int p2), .val (.int nc), .val (.int mu), .val (.ref b1), .val (.ref xc_12), .val (.ref xu_12), .unset, .unset, .unset] [.null, (.ref xc_12)]))
    obtain ⟨cq109, kq109, qv109a, qv109b, qv109c⟩ := isOf hZ e16 Lxc_12.1
    obtain ⟨_, _, ⟨T109, L109, k109, n109⟩, -, X109, ⟨Lc109, hQ109, l109, y109, z109⟩, st109⟩ := X16.interfaceBack hx (xi := (⟨"java/util/List", "add", "(Ljava/lang/Object;)Z"⟩ : MethodName)) (y := (⟨"java/util/ArrayList", "add", "(Ljava/lang/Object;)Z"⟩ : MethodName)) hown (mvT hZ (hw _ (List.mem_of_getElem? (i := 77) rfl))) (mvT hZ (hw _ (List.mem_of_getElem? (i := 78) rfl))) (mvT hZ (hw _ (List.mem_of_getElem? (i := 79) rfl))) (mvT hZ (hw _ (List.mem_of_getElem? (i := 80) rfl))) (mvT hZ (hw _ (List.mem_of_getElem? (i := 81) rfl))) (mvT hZ (hw _ (List.mem_of_getElem? (i := 82) rfl))) (mvT hZ (hw _ (List.mem_of_getElem? (i := 83) rfl))) (mvT hZ (hw _ (List.mem_of_getElem? (i := 84) rfl))) (by decide) (backOf (W := 0) (rm11 l Z a0 hw [] xc_12 (xd) (xk) ((0 : Int32)) (xc_12) T12.heap n0 Z12 g_xc_12 g_xc_12 (Ne.symm ne_xd_xc_12) Lxc_12 f13 f14 SD ⟨by decide, by decide⟩) hZ (hw _ (List.mem_of_getElem? (i := 85) rfl)) (hw _ (List.mem_of_getElem? (i := 11) rfl)) (by decide) (by decide)) qv109a qv109b qv109c (g := (mkF m 38 #[.val (.int p1), .val (.int p2), .val (.int nc), .val (.int mu), .val (.ref b1), .val (.ref xc_12), .val (.ref xu_12), .unset, .unset, .unset] [.null, (.ref xc_12)])) rfl (by rw [hml]; rfl) (Steps.refl _) (argsL := [.null]) (rest := []) (lenOf pd_0_2 rfl) rfl (by show 2 * 0 + _ ≤ _; exact Nat.le_of_eq rfl) (hb hby at_38) (fun _ _ => ⟨rfl, e16, (by decide : 5 + 1 ≤ _), (by decide : 30 + 10 ≤ _)⟩)
    dsimp only [Pt.U, Pt.locs, Pt.cells, Pt.slots] at X109 l109 y109 z109 st109 hQ109
    subst l109 y109 z109
    obtain ⟨r109, yb_109, rfl, hr109, N109q, Kq109, p109_0, pp109_0⟩ := hQ109
    have N109 := Fr.app N16 N109q
    have ne_b1_yb_109 : b1 ≠ yb_109 := own_ney pp109_0 ne_b1_xc_12 p12_0.lt
    have ne_xd_yb_109 : xd ≠ yb_109 := own_ney pp109_0 ne_xd_xc_12 f13.lt
    have ne_xu_12_yb_109 : xu_12 ≠ yb_109 := own_ney pp109_0 (Ne.symm ne_xc_12_xu_12) Lxu_12.lta
    have g_yb_109 : n0 ≤ yb_109 := own_gy pp109_0 g_xc_12 Z12
    have f110 : Arv Z T109.heap xd xk (.object "java/lang/Object") (0 : Int32) [] .null := f13.keep Kq109 (ninS ne_xd_xc_12 (ninS ne_xd_xc_12 nin0))
    have f111 : Old Z n0 T109.heap := f14.keep Kq109 (allS (P := fun x => n0 ≤ x) g_xc_12 (allS (P := fun x => n0 ≤ x) g_xc_12 all0))
    have f112 : Exa Z T109.heap b1 "com/example/coverbill/coverbill/charge/PriceItemChanges" := p12_0.keep Kq109
    have f113 : Fld Z T109.heap b1 "com/example/coverbill/coverbill/charge/PriceItemChanges" "created" "Ljava/util/List;" (.ref xc_12) := p12_1.keep Kq109 (ninS ne_b1_xc_12 (ninS ne_b1_xc_12 nin0))
    have f114 : Fld Z T109.heap b1 "com/example/coverbill/coverbill/charge/PriceItemChanges" "updated" "Ljava/util/List;" (.ref xu_12) := p12_2.keep Kq109 (ninS ne_b1_xc_12 (ninS ne_b1_xc_12 nin0))
    have f115 : Fld Z T109.heap b1 "com/example/coverbill/coverbill/charge/PriceItemChanges" "complete" "I" (.int (0 : Int32)) := p12_3.keep Kq109 (ninS ne_b1_xc_12 (ninS ne_b1_xc_12 nin0))
    have f116 : Fld Z T109.heap b1 "com/example/coverbill/coverbill/charge/PriceItemChanges" "failed" "I" (.int (0 : Int32)) := p12_4.keep Kq109 (ninS ne_b1_xc_12 (ninS ne_b1_xc_12 nin0))
    have f117 : Fld Z T109.heap b1 "com/example/coverbill/coverbill/charge/PriceItemChanges" "endDatesChanged" "I" (.int (0 : Int32)) := p12_5.keep Kq109 (ninS ne_b1_xc_12 (ninS ne_b1_xc_12 nin0))
    have f118 : Fld Z T109.heap b1 "com/example/coverbill/coverbill/charge/PriceItemChanges" "canceled" "I" (.int (0 : Int32)) := p12_6.keep Kq109 (ninS ne_b1_xc_12 (ninS ne_b1_xc_12 nin0))
    have f119 : own_L Z T109.heap xu_12 (0 : Int32) xu_12 xd := Lxu_12.keep Kq109 (ninS (Ne.symm ne_xc_12_xu_12) (ninS (Ne.symm ne_xc_12_xu_12) nin0)) (ninS (Ne.symm ne_xc_12_xu_12) (ninS (Ne.symm ne_xc_12_xu_12) nin0))
    have Z109 : n0 ≤ T109.heap.size := Nat.le_trans Z12 Kq109.1
    refine own_tr st109 ?_
    show own_Go p e below K (T109.setTop (mkF m 43 #[.val (.int p1), .val (.int p2), .val (.int nc), .val (.int mu), .val (.ref b1), .val (.ref xc_12), .val (.ref xu_12), .unset, .unset, .unset] [(.int r109)]))
    refine own_st (fun t k => XS.pop X109.here hx rfl (hb hby at_43) rfl rfl k) ?_
    show own_Go p e below K (T109.setTop (mkF m 44 #[.val (.int p1), .val (.int p2), .val (.int nc), .val (.int mu), .val (.ref b1), .val (.ref xc_12), .val (.ref xu_12), .unset, .unset, .unset] []))
    refine own_st (fun t k => XS.iloadN X109.here hx rfl (hb hby at_44) rfl k) ?_
    show own_Go p e below K (T109.setTop (mkF m 45 #[.val (.int p1), .val (.int p2), .val (.int nc), .val (.int mu), .val (.ref b1), .val (.ref xc_12), .val (.ref xu_12), .unset, .unset, .unset] [(.int nc)]))
    refine own_st (fun t k => XS.iconst X109.here hx rfl (hb hby at_45) k) ?_
    show own_Go p e below K (T109.setTop (mkF m 46 #[.val (.int p1), .val (.int p2), .val (.int nc), .val (.int mu), .val (.ref b1), .val (.ref xc_12), .val (.ref xu_12), .unset, .unset, .unset] [(.int (1 : Int32)), (.int nc)]))
    by_cases hc46 : (1 : Int32) < nc
    · refine own_st (fun t k => XS.icmpNo X109.here hx rfl (hb hby at_46) rfl (tlt hc46).2.2.2 k) ?_
      show own_Go p e below K (T109.setTop (mkF m 49 #[.val (.int p1), .val (.int p2), .val (.int nc), .val (.int mu), .val (.ref b1), .val (.ref xc_12), .val (.ref xu_12), .unset, .unset, .unset] []))
      refine own_st (fun t k => XS.aload X109.here hx rfl (hb hby at_49) rfl rfl k) ?_
      show own_Go p e below K (T109.setTop (mkF m 51 #[.val (.int p1), .val (.int p2), .val (.int nc), .val (.int mu), .val (.ref b1), .val (.ref xc_12), .val (.ref xu_12), .unset, .unset, .unset] [(.ref xc_12)]))
      refine own_st (fun t k => XS.aconstNull X109.here hx rfl (hb hby at_51) k) ?_
      show own_Go p e below K (T109.setTop (mkF m 52 #[.val (.int p1), .val (.int p2), .val (.int nc), .val (.int mu), .val (.ref b1), .val (.ref xc_12), .val (.ref xu_12), .unset, .unset, .unset] [.null, (.ref xc_12)]))
      obtain ⟨cq120, kq120, qv120a, qv120b, qv120c⟩ := isOf hZ rfl p109_0.1
      obtain ⟨_, _, ⟨T120, L120, k120, n120⟩, -, X120, ⟨Lc120, hQ120, l120, y120, z120⟩, st120⟩ := X109.interfaceBack hx (xi := (⟨"java/util/List", "add", "(Ljava/lang/Object;)Z"⟩ : MethodName)) (y := (⟨"java/util/ArrayList", "add", "(Ljava/lang/Object;)Z"⟩ : MethodName)) hown (mvT hZ (hw _ (List.mem_of_getElem? (i := 77) rfl))) (mvT hZ (hw _ (List.mem_of_getElem? (i := 78) rfl))) (mvT hZ (hw _ (List.mem_of_getElem? (i := 79) rfl))) (mvT hZ (hw _ (List.mem_of_getElem? (i := 80) rfl))) (mvT hZ (hw _ (List.mem_of_getElem? (i := 81) rfl))) (mvT hZ (hw _ (List.mem_of_getElem? (i := 82) rfl))) (mvT hZ (hw _ (List.mem_of_getElem? (i := 83) rfl))) (mvT hZ (hw _ (List.mem_of_getElem? (i := 84) rfl))) (by decide) (backOf (W := 0) (rm11 l Z a0 hw [] xc_12 (xd) (xk) (((0 : Int32) + (1 : Int32))) (yb_109) T109.heap n0 Z109 g_xc_12 g_yb_109 (Ne.symm ne_xd_xc_12) p109_0 f110 f111 SD ⟨by decide, by decide⟩) hZ (hw _ (List.mem_of_getElem? (i := 85) rfl)) (hw _ (List.mem_of_getElem? (i := 11) rfl)) (by decide) (by decide)) qv120a qv120b qv120c (g := (mkF m 52 #[.val (.int p1), .val (.int p2), .val (.int nc), .val (.int mu), .val (.ref b1), .val (.ref xc_12), .val (.ref xu_12), .unset, .unset, .unset] [.null, (.ref xc_12)])) rfl (by rw [hml]; rfl) (Steps.refl _) (argsL := [.null]) (rest := []) (lenOf pd_0_2 rfl) rfl (by show 2 * 0 + _ ≤ _; exact Nat.le_of_eq rfl) (hb hby at_52) (fun _ _ => ⟨rfl, rfl, (by decide : 6 + 1 ≤ _), (by decide : 40 + 10 ≤ _)⟩)
      dsimp only [Pt.U, Pt.locs, Pt.cells, Pt.slots] at X120 l120 y120 z120 st120 hQ120
      subst l120 y120 z120
      obtain ⟨r120, yb_120, rfl, hr120, N120q, Kq120, p120_0, pp120_0⟩ := hQ120
      have N120 := Fr.app N109 N120q
      have ne_b1_yb_120 : b1 ≠ yb_120 := own_ney pp120_0 ne_b1_yb_109 f112.lt
      have ne_xd_yb_120 : xd ≠ yb_120 := own_ney pp120_0 ne_xd_yb_109 f110.lt
      have ne_xu_12_yb_120 : xu_12 ≠ yb_120 := own_ney pp120_0 ne_xu_12_yb_109 f119.lta
      have g_yb_120 : n0 ≤ yb_120 := own_gy pp120_0 g_yb_109 Z109
      have f121 : Arv Z T120.heap xd xk (.object "java/lang/Object") (0 : Int32) [] .null := f110.keep Kq120 (ninS ne_xd_xc_12 (ninS ne_xd_yb_109 nin0))
      have f122 : Old Z n0 T120.heap := f111.keep Kq120 (allS (P := fun x => n0 ≤ x) g_xc_12 (allS (P := fun x => n0 ≤ x) g_yb_109 all0))
      have f123 : Exa Z T120.heap b1 "com/example/coverbill/coverbill/charge/PriceItemChanges" := f112.keep Kq120
      have f124 : Fld Z T120.heap b1 "com/example/coverbill/coverbill/charge/PriceItemChanges" "created" "Ljava/util/List;" (.ref xc_12) := f113.keep Kq120 (ninS ne_b1_xc_12 (ninS ne_b1_yb_109 nin0))
      have f125 : Fld Z T120.heap b1 "com/example/coverbill/coverbill/charge/PriceItemChanges" "updated" "Ljava/util/List;" (.ref xu_12) := f114.keep Kq120 (ninS ne_b1_xc_12 (ninS ne_b1_yb_109 nin0))
      have f126 : Fld Z T120.heap b1 "com/example/coverbill/coverbill/charge/PriceItemChanges" "complete" "I" (.int (0 : Int32)) := f115.keep Kq120 (ninS ne_b1_xc_12 (ninS ne_b1_yb_109 nin0))
      have f127 : Fld Z T120.heap b1 "com/example/coverbill/coverbill/charge/PriceItemChanges" "failed" "I" (.int (0 : Int32)) := f116.keep Kq120 (ninS ne_b1_xc_12 (ninS ne_b1_yb_109 nin0))
      have f128 : Fld Z T120.heap b1 "com/example/coverbill/coverbill/charge/PriceItemChanges" "endDatesChanged" "I" (.int (0 : Int32)) := f117.keep Kq120 (ninS ne_b1_xc_12 (ninS ne_b1_yb_109 nin0))
      have f129 : Fld Z T120.heap b1 "com/example/coverbill/coverbill/charge/PriceItemChanges" "canceled" "I" (.int (0 : Int32)) := f118.keep Kq120 (ninS ne_b1_xc_12 (ninS ne_b1_yb_109 nin0))
      have f130 : own_L Z T120.heap xu_12 (0 : Int32) xu_12 xd := f119.keep Kq120 (ninS (Ne.symm ne_xc_12_xu_12) (ninS ne_xu_12_yb_109 nin0)) (ninS (Ne.symm ne_xc_12_xu_12) (ninS ne_xu_12_yb_109 nin0))
      have Z120 : n0 ≤ T120.heap.size := Nat.le_trans Z109 Kq120.1
      refine own_tr st120 ?_
      show own_Go p e below K (T120.setTop (mkF m 57 #[.val (.int p1), .val (.int p2), .val (.int nc), .val (.int mu), .val (.ref b1), .val (.ref xc_12), .val (.ref xu_12), .unset, .unset, .unset] [(.int r120)]))
      refine own_st (fun t k => XS.pop X120.here hx rfl (hb hby at_57) rfl rfl k) ?_
      show own_Go p e below K (T120.setTop (mkF m 58 #[.val (.int p1), .val (.int p2), .val (.int nc), .val (.int mu), .val (.ref b1), .val (.ref xc_12), .val (.ref xu_12), .unset, .unset, .unset] []))
      refine own_st (fun t k => XS.iloadN X120.here hx rfl (hb hby at_58) rfl k) ?_
      show own_Go p e below K (T120.setTop (mkF m 59 #[.val (.int p1), .val (.int p2), .val (.int nc), .val (.int mu), .val (.ref b1), .val (.ref xc_12), .val (.ref xu_12), .unset, .unset, .unset] [(.int nc)]))
      refine own_st (fun t k => XS.iconst X120.here hx rfl (hb hby at_59) k) ?_
      show own_Go p e below K (T120.setTop (mkF m 60 #[.val (.int p1), .val (.int p2), .val (.int nc), .val (.int mu), .val (.ref b1), .val (.ref xc_12), .val (.ref xu_12), .unset, .unset, .unset] [(.int (2 : Int32)), (.int nc)]))
      by_cases hc60 : (2 : Int32) < nc
      · refine own_st (fun t k => XS.icmpNo X120.here hx rfl (hb hby at_60) rfl (tlt hc60).2.2.2 k) ?_
        show own_Go p e below K (T120.setTop (mkF m 63 #[.val (.int p1), .val (.int p2), .val (.int nc), .val (.int mu), .val (.ref b1), .val (.ref xc_12), .val (.ref xu_12), .unset, .unset, .unset] []))
        refine own_st (fun t k => XS.aload X120.here hx rfl (hb hby at_63) rfl rfl k) ?_
        show own_Go p e below K (T120.setTop (mkF m 65 #[.val (.int p1), .val (.int p2), .val (.int nc), .val (.int mu), .val (.ref b1), .val (.ref xc_12), .val (.ref xu_12), .unset, .unset, .unset] [(.ref xc_12)]))
        refine own_st (fun t k => XS.aconstNull X120.here hx rfl (hb hby at_65) k) ?_
        show own_Go p e below K (T120.setTop (mkF m 66 #[.val (.int p1), .val (.int p2), .val (.int nc), .val (.int mu), .val (.ref b1), .val (.ref xc_12), .val (.ref xu_12), .unset, .unset, .unset] [.null, (.ref xc_12)]))
        obtain ⟨cq131, kq131, qv131a, qv131b, qv131c⟩ := isOf hZ rfl p120_0.1
        obtain ⟨_, _, ⟨T131, L131, k131, n131⟩, -, X131, ⟨Lc131, hQ131, l131, y131, z131⟩, st131⟩ := X120.interfaceBack hx (xi := (⟨"java/util/List", "add", "(Ljava/lang/Object;)Z"⟩ : MethodName)) (y := (⟨"java/util/ArrayList", "add", "(Ljava/lang/Object;)Z"⟩ : MethodName)) hown (mvT hZ (hw _ (List.mem_of_getElem? (i := 77) rfl))) (mvT hZ (hw _ (List.mem_of_getElem? (i := 78) rfl))) (mvT hZ (hw _ (List.mem_of_getElem? (i := 79) rfl))) (mvT hZ (hw _ (List.mem_of_getElem? (i := 80) rfl))) (mvT hZ (hw _ (List.mem_of_getElem? (i := 81) rfl))) (mvT hZ (hw _ (List.mem_of_getElem? (i := 82) rfl))) (mvT hZ (hw _ (List.mem_of_getElem? (i := 83) rfl))) (mvT hZ (hw _ (List.mem_of_getElem? (i := 84) rfl))) (by decide) (backOf (W := 0) (rm11 l Z a0 hw [] xc_12 (xd) (xk) ((((0 : Int32) + (1 : Int32)) + (1 : Int32))) (yb_120) T120.heap n0 Z120 g_xc_12 g_yb_120 (Ne.symm ne_xd_xc_12) p120_0 f121 f122 SD ⟨by decide, by decide⟩) hZ (hw _ (List.mem_of_getElem? (i := 85) rfl)) (hw _ (List.mem_of_getElem? (i := 11) rfl)) (by decide) (by decide)) qv131a qv131b qv131c (g := (mkF m 66 #[.val (.int p1), .val (.int p2), .val (.int nc), .val (.int mu), .val (.ref b1), .val (.ref xc_12), .val (.ref xu_12), .unset, .unset, .unset] [.null, (.ref xc_12)])) rfl (by rw [hml]; rfl) (Steps.refl _) (argsL := [.null]) (rest := []) (lenOf pd_0_2 rfl) rfl (by show 2 * 0 + _ ≤ _; exact Nat.le_of_eq rfl) (hb hby at_66) (fun _ _ => ⟨rfl, rfl, (by decide : 7 + 1 ≤ _), (by decide : 50 + 10 ≤ _)⟩)
        dsimp only [Pt.U, Pt.locs, Pt.cells, Pt.slots] at X131 l131 y131 z131 st131 hQ131
        subst l131 y131 z131
        obtain ⟨r131, yb_131, rfl, hr131, N131q, Kq131, p131_0, pp131_0⟩ := hQ131
        have N131 := Fr.app N120 N131q
        have ne_b1_yb_131 : b1 ≠ yb_131 := own_ney pp131_0 ne_b1_yb_120 f123.lt
        have ne_xd_yb_131 : xd ≠ yb_131 := own_ney pp131_0 ne_xd_yb_120 f121.lt
        have ne_xu_12_yb_131 : xu_12 ≠ yb_131 := own_ney pp131_0 ne_xu_12_yb_120 f130.lta
        have g_yb_131 : n0 ≤ yb_131 := own_gy pp131_0 g_yb_120 Z120
        have f132 : Arv Z T131.heap xd xk (.object "java/lang/Object") (0 : Int32) [] .null := f121.keep Kq131 (ninS ne_xd_xc_12 (ninS ne_xd_yb_120 nin0))
        have f133 : Old Z n0 T131.heap := f122.keep Kq131 (allS (P := fun x => n0 ≤ x) g_xc_12 (allS (P := fun x => n0 ≤ x) g_yb_120 all0))
        have f134 : Exa Z T131.heap b1 "com/example/coverbill/coverbill/charge/PriceItemChanges" := f123.keep Kq131
        have f135 : Fld Z T131.heap b1 "com/example/coverbill/coverbill/charge/PriceItemChanges" "created" "Ljava/util/List;" (.ref xc_12) := f124.keep Kq131 (ninS ne_b1_xc_12 (ninS ne_b1_yb_120 nin0))
        have f136 : Fld Z T131.heap b1 "com/example/coverbill/coverbill/charge/PriceItemChanges" "updated" "Ljava/util/List;" (.ref xu_12) := f125.keep Kq131 (ninS ne_b1_xc_12 (ninS ne_b1_yb_120 nin0))
        have f137 : Fld Z T131.heap b1 "com/example/coverbill/coverbill/charge/PriceItemChanges" "complete" "I" (.int (0 : Int32)) := f126.keep Kq131 (ninS ne_b1_xc_12 (ninS ne_b1_yb_120 nin0))
        have f138 : Fld Z T131.heap b1 "com/example/coverbill/coverbill/charge/PriceItemChanges" "failed" "I" (.int (0 : Int32)) := f127.keep Kq131 (ninS ne_b1_xc_12 (ninS ne_b1_yb_120 nin0))
        have f139 : Fld Z T131.heap b1 "com/example/coverbill/coverbill/charge/PriceItemChanges" "endDatesChanged" "I" (.int (0 : Int32)) := f128.keep Kq131 (ninS ne_b1_xc_12 (ninS ne_b1_yb_120 nin0))
        have f140 : Fld Z T131.heap b1 "com/example/coverbill/coverbill/charge/PriceItemChanges" "canceled" "I" (.int (0 : Int32)) := f129.keep Kq131 (ninS ne_b1_xc_12 (ninS ne_b1_yb_120 nin0))
        have f141 : own_L Z T131.heap xu_12 (0 : Int32) xu_12 xd := f130.keep Kq131 (ninS (Ne.symm ne_xc_12_xu_12) (ninS ne_xu_12_yb_120 nin0)) (ninS (Ne.symm ne_xc_12_xu_12) (ninS ne_xu_12_yb_120 nin0))
        have Z131 : n0 ≤ T131.heap.size := Nat.le_trans Z120 Kq131.1
        refine own_tr st131 ?_
        show own_Go p e below K (T131.setTop (mkF m 71 #[.val (.int p1), .val (.int p2), .val (.int nc), .val (.int mu), .val (.ref b1), .val (.ref xc_12), .val (.ref xu_12), .unset, .unset, .unset] [(.int r131)]))
        refine own_st (fun t k => XS.pop X131.here hx rfl (hb hby at_71) rfl rfl k) ?_
        show own_Go p e below K (T131.setTop (mkF m 72 #[.val (.int p1), .val (.int p2), .val (.int nc), .val (.int mu), .val (.ref b1), .val (.ref xc_12), .val (.ref xu_12), .unset, .unset, .unset] []))
        exact J72 T131 _ _ (yb_131) (X131.more (by decide) (by decide)) rfl N131 Z131 f134 f135 f136 f137 f138 f139 f140 (p131_0.cast (own_z3 Bn hc60)) f141 f132 f133 ⟨ne_b1_yb_131, ne_xu_12_yb_131, ne_xd_yb_131, g_yb_131⟩
      refine own_st (fun t k => XS.icmpYes X120.here hx rfl (pc0 := 60) (pc' := 72) rfl (hb hby at_60) rfl (flt hc60).2.2.2 (by decide) (by decide) k) ?_
      show own_Go p e below K (T120.setTop (mkF m 72 #[.val (.int p1), .val (.int p2), .val (.int nc), .val (.int mu), .val (.ref b1), .val (.ref xc_12), .val (.ref xu_12), .unset, .unset, .unset] []))
      exact J72 T120 _ _ (yb_120) (X120.more (by decide) (by decide)) rfl N120 Z120 f123 f124 f125 f126 f127 f128 f129 (p120_0.cast (own_z2 Bn hc46 hc60)) f130 f121 f122 ⟨ne_b1_yb_120, ne_xu_12_yb_120, ne_xd_yb_120, g_yb_120⟩
    refine own_st (fun t k => XS.icmpYes X109.here hx rfl (pc0 := 46) (pc' := 58) rfl (hb hby at_46) rfl (flt hc46).2.2.2 (by decide) (by decide) k) ?_
    show own_Go p e below K (T109.setTop (mkF m 58 #[.val (.int p1), .val (.int p2), .val (.int nc), .val (.int mu), .val (.ref b1), .val (.ref xc_12), .val (.ref xu_12), .unset, .unset, .unset] []))
    refine own_st (fun t k => XS.iloadN X109.here hx rfl (hb hby at_58) rfl k) ?_
    show own_Go p e below K (T109.setTop (mkF m 59 #[.val (.int p1), .val (.int p2), .val (.int nc), .val (.int mu), .val (.ref b1), .val (.ref xc_12), .val (.ref xu_12), .unset, .unset, .unset] [(.int nc)]))
    refine own_st (fun t k => XS.iconst X109.here hx rfl (hb hby at_59) k) ?_
    show own_Go p e below K (T109.setTop (mkF m 60 #[.val (.int p1), .val (.int p2), .val (.int nc), .val (.int mu), .val (.ref b1), .val (.ref xc_12), .val (.ref xu_12), .unset, .unset, .unset] [(.int (2 : Int32)), (.int nc)]))
    refine own_st (fun t k => XS.icmpYes X109.here hx rfl (pc0 := 60) (pc' := 72) rfl (hb hby at_60) rfl (flt (own_lt2 hc46 : ¬ ((2 : Int32) < nc))).2.2.2 (by decide) (by decide) k) ?_
    show own_Go p e below K (T109.setTop (mkF m 72 #[.val (.int p1), .val (.int p2), .val (.int nc), .val (.int mu), .val (.ref b1), .val (.ref xc_12), .val (.ref xu_12), .unset, .unset, .unset] []))
    exact J72 T109 _ _ (yb_109) (X109.more (by decide) (by decide)) rfl N109 Z109 f112 f113 f114 f115 f116 f117 f118 (p109_0.cast (own_z1 Bn hc32 hc46)) f119 f110 f111 ⟨ne_b1_yb_109, ne_xu_12_yb_109, ne_xd_yb_109, g_yb_109⟩
  refine own_st (fun t k => XS.ifYes X16.here hx rfl (pc0 := 32) (pc' := 44) rfl (hb hby at_32) rfl ((if0 _ _).trans (flt hc32).2.2.2) (by decide) (by decide) k) ?_
  show own_Go p e below K (T16.setTop (mkF m 44 #[.val (.int p1), .val (.int p2), .val (.int nc), .val (.int mu), .val (.ref b1), .val (.ref xc_12), .val (.ref xu_12), .unset, .unset, .unset] []))
  refine own_st (fun t k => XS.iloadN X16.here hx rfl (hb hby at_44) rfl k) ?_
  show own_Go p e below K (T16.setTop (mkF m 45 #[.val (.int p1), .val (.int p2), .val (.int nc), .val (.int mu), .val (.ref b1), .val (.ref xc_12), .val (.ref xu_12), .unset, .unset, .unset] [(.int nc)]))
  refine own_st (fun t k => XS.iconst X16.here hx rfl (hb hby at_45) k) ?_
  show own_Go p e below K (T16.setTop (mkF m 46 #[.val (.int p1), .val (.int p2), .val (.int nc), .val (.int mu), .val (.ref b1), .val (.ref xc_12), .val (.ref xu_12), .unset, .unset, .unset] [(.int (1 : Int32)), (.int nc)]))
  refine own_st (fun t k => XS.icmpYes X16.here hx rfl (pc0 := 46) (pc' := 58) rfl (hb hby at_46) rfl (flt (own_lt1 hc32 : ¬ ((1 : Int32) < nc))).2.2.2 (by decide) (by decide) k) ?_
  show own_Go p e below K (T16.setTop (mkF m 58 #[.val (.int p1), .val (.int p2), .val (.int nc), .val (.int mu), .val (.ref b1), .val (.ref xc_12), .val (.ref xu_12), .unset, .unset, .unset] []))
  refine own_st (fun t k => XS.iloadN X16.here hx rfl (hb hby at_58) rfl k) ?_
  show own_Go p e below K (T16.setTop (mkF m 59 #[.val (.int p1), .val (.int p2), .val (.int nc), .val (.int mu), .val (.ref b1), .val (.ref xc_12), .val (.ref xu_12), .unset, .unset, .unset] [(.int nc)]))
  refine own_st (fun t k => XS.iconst X16.here hx rfl (hb hby at_59) k) ?_
  show own_Go p e below K (T16.setTop (mkF m 60 #[.val (.int p1), .val (.int p2), .val (.int nc), .val (.int mu), .val (.ref b1), .val (.ref xc_12), .val (.ref xu_12), .unset, .unset, .unset] [(.int (2 : Int32)), (.int nc)]))
  refine own_st (fun t k => XS.icmpYes X16.here hx rfl (pc0 := 60) (pc' := 72) rfl (hb hby at_60) rfl (flt (own_lt2 (own_lt1 hc32) : ¬ ((2 : Int32) < nc))).2.2.2 (by decide) (by decide) k) ?_
  show own_Go p e below K (T16.setTop (mkF m 72 #[.val (.int p1), .val (.int p2), .val (.int nc), .val (.int mu), .val (.ref b1), .val (.ref xc_12), .val (.ref xu_12), .unset, .unset, .unset] []))
  exact J72 T16 _ _ (xc_12) (X16.more (by decide) (by decide)) e16 N16 Z12 p12_0 p12_1 p12_2 p12_3 p12_4 p12_5 p12_6 (Lxc_12.cast (own_z0 Bn hc32)) Lxu_12 f13 f14 ⟨ne_b1_xc_12, (Ne.symm ne_xc_12_xu_12), ne_xd_xc_12, g_xc_12⟩
set_option maxRecDepth 65536 in
set_option maxHeartbeats 40000000 in
theorem comes_1 {Post : Tables → Env → Array Value → State → Outcome → State → Prop} (hpost : ∀ tb e args s v u, (limb_1_1.after args s (.returned v) u = true ∧ limb_1_2.after args s (.returned v) u = true ∧ True) → FrameEnd s (.returned v) u (Jvm.fieldLocs frame_1_writes args s ++ Jvm.arrayLocs frame_1_arrays args s ++ Jvm.staticLocs frame_1_statics s) 32 192 → Post tb e args s (.returned v) u) :
    ArmFor flags0 classFile x code maxLocals ret World_1 tables_1 room_1 Calls_1 rest_1 Pre_1 Post := by
  intro l hfl _ _ p e ha hc hk s m args below hf hA hF happ hP
  obtain ⟨hcalls, hrest, hpre⟩ := hP
  obtain ⟨-, -, -, hnamed, -, -, -, hat⟩ := (Spec.applies_iff hf).mp happ
  obtain ⟨hg, hn⟩ := and_e (Cond.before_iff.mp (show (Jvm.Cond.and given_1 narrow_1).before args s = true from hpre))
  obtain ⟨g1, g2⟩ := and_e hg
  obtain ⟨g3, g4⟩ := and_e g2
  obtain ⟨w0, w1, rfl⟩ : ∃ w0 w1 : Value, args = #[w0, w1] := by
    have hs : args.size = 2 := by simpa [Cond.value, given_1] using g1
    obtain ⟨L⟩ := args
    match L, hs with
    | [w0, w1], _ => exact ⟨w0, w1, rfl⟩
  have hw := fun d (hd : d ∈ tables_1) => atoms_spec (ws := Jvm.Cond.code x code maxLocals ret :: tables_1) hat d (List.mem_cons_of_mem _ hd)
  have hfit : Fit s := fun {y c} hc i hi => by
    obtain ⟨ha, rfl⟩ := Array.getElem?_eq_some_iff.mp hc
    have q := List.all_eq_true.mp ((Array.all_eq_true_iff_forall_mem.mp hF) _ (Array.getElem_mem ha)) i (List.mem_range.mpr hi)
    simpa [Array.getElem?_eq_getElem hi] using q
  obtain ⟨hsets, hown0⟩ := atoms_of _ (rest_1_c_eq ▸ (show rest_1_c.before _ s = true from hrest))
  have hr0 := Cond.before_iff.mp hown0
  obtain ⟨i0, ei0⟩ := is_v g3
  obtain rfl : w0 = (.int i0) := Option.some.inj ei0
  obtain ⟨i1, ei1⟩ := is_v g4
  obtain rfl : w1 = (.int i1) := Option.some.inj ei1
  obtain ⟨xd, evD⟩ := arr_v (Cond.before_iff.mp (hsets _ (List.mem_of_getElem? (i := 6) rfl)))
  have SD := Sta.start evD (Or.inr ⟨(hw _ (List.mem_of_getElem? (i := 11) rfl)), hsets _ (List.mem_of_getElem? (i := 2) rfl)⟩)
  obtain ⟨clD, ArD⟩ := Arr.start evD (Cond.before_iff.mp (hsets _ (List.mem_of_getElem? (i := 6) rfl)))
  have VD := own_empty hfit evD ArD (Cond.before_iff.mp (hsets _ (List.mem_of_getElem? (i := 8) rfl)))
  obtain ⟨n, o, h1, h2, h3, _, L, rfl, ⟨rfl, N⟩, hq⟩ := rm0 l s _ hw tables_1 i0 i1 xd clD.cls s.heap s.heap.size (Nat.le_refl _) VD (Old.start s) SD p e ha hc hk s m _ below hf ((Spec.applies_iff_loose hf).mp happ).1 ⟨rfl, State.Warmed39.refl s, rfl⟩ trivial
  refine ⟨n, _, h1, h2, h3, hpost _ _ _ _ _ _ ⟨Cond.after_iff.mpr rfl, Cond.after_iff.mpr (eq_i res_at (Term.int_eval (1)) rfl), trivial⟩ ⟨hq.1, hq.2.1, (hq.2.2.sift fun y hy => Or.inr (N y hy)).mono (by decide) (by decide)⟩⟩
theorem main_1_1 : Claimed_1_1 := comes_1 fun _ _ _ _ _ _ h hF => ⟨h.1, hF⟩
theorem main_1_2 : Claimed_1_2 := comes_1 fun _ _ _ _ _ _ h hF => ⟨h.2.1, hF⟩
end Jvm.Pilot.@@N@@
namespace Jvm.Pilot.@@N@@
open Jvm Jvm.ClassFile Sem Op Lib Jvm.Free Jvm.Stand Jvm.Pilot.@@N@@.Jvm.D
/-! MADE BY PROGRAM (witnessworld.py) out of the Statement's table words and the real class files: 25 classes; the members and pool entries that the words name. The judged class is class 1, her method 1. -/
namespace start1
open Jvm.ClassFile
def u (s : String) : CpInfo := .utf8 (stringToUtf16 s)
/-- a pool by its gaps: so many unusable entries, then the entry; so many at the end -/
def gap : Nat → List CpInfo → List CpInfo
  | 0, r => r
  | n + 1, r => .unusable :: gap n r
def poolList (es : List (Nat × CpInfo)) (last : Nat) : List CpInfo := es.foldr (fun e r => gap e.1 (e.2 :: r)) (gap last [])
def pool (es : List (Nat × CpInfo)) (last : Nat) : Array CpInfo := ⟨poolList es last⟩
def fileOf (pool : Array CpInfo) (this : Nat) (attrs : Array Attribute := #[]) (ms : Array MethodInfo := #[]) (fl : Nat := 33) (sup : Nat := 0) (ifs : Array Nat := #[]) (fds : Array FieldInfo := #[]) : ClassFile where
  minorVersion := 0
  majorVersion := 65
  constantPool := pool
  accessFlags := fl
  thisClass := this
  superClass := sup
  interfaces := ifs
  fields := fds
  methods := ms
  attributes := attrs
def plain (name : String) (sup : Option ClassId) : Class where
  name := name
  kind := .ordinary
  loader := none
  accessFlags := 33
  super := sup
  interfaces := #[]
  cf := none
  fields := #[]
  methods := #[]
  instanceTypes := #[]
  staticTypes := #[]
  resolved := #[]
  callSites := []
  init := .initialized
  statics := none
  mirror := none

def pool0 : Array CpInfo := pool [(5, u "<init>"), (0, u "()V"), (1, .class_ 10), (1, u "java/lang/Object")] 113

def k0c0 : Code := { maxStack := 0, maxLocals := 1, code := object_method_1_code, exceptionTable := #[], attributes := #[] }
def k0m0 : Method := { name := "<init>", desc := "()V", sig := { parameters := [], returnType := none }, accessFlags := 1, code := some k0c0 }
/-- java/lang/Object -/
def k0 : Class := { plain "java/lang/Object" none with
  accessFlags := 33
  interfaces := #[]
  cf := some (fileOf pool0 8 #[] #[{ accessFlags := 1, nameIndex := 5, descriptorIndex := 6, attributes := #[] }] 33 0 #[] #[])
  fields := #[]
  methods := #[k0m0]
  instanceTypes := #[]
  staticTypes := #[]
  resolved := Array.replicate 124 none
  statics := none }

def pool1 : Array CpInfo := pool [(2, .class_ 4), (0, .nameAndType 5 6), (0, u "java/lang/Object"), (0, u "<init>"), (0, u "()V"), (0, .class_ 8), (0, u "com/example/coverbill/coverbill/charge/PriceItemChanges"), (0, .methodref 7 3), (0, .methodref 7 11), (0, .nameAndType 12 13), (0, u "created"), (0, u "()Ljava/util/List;"), (0, .methodref 7 15), (0, .nameAndType 16 13), (0, u "updated"), (0, .interfaceMethodref 18 19), (0, .class_ 20), (0, .nameAndType 21 22), (0, u "java/util/List"), (0, u "add"), (0, u "(Ljava/lang/Object;)Z"), (0, .methodref 7 24), (0, .nameAndType 25 26), (0, u "counted"), (0, u "()Lcom/example/coverbill/coverbill/charge/ChargeRunResult;"), (0, .methodref 28 29), (0, .class_ 30), (0, .nameAndType 31 32), (0, u "com/example/coverbill/coverbill/charge/ChargeRunResult"), (0, u "chargesCreated"), (0, u "()I"), (0, .methodref 28 34), (0, .nameAndType 35 32), (0, u "complete"), (0, .methodref 28 37), (0, .nameAndType 38 32), (0, u "error"), (0, .methodref 28 40), (0, .nameAndType 41 32), (0, u "endDatesChanged"), (0, .methodref 28 43), (0, .nameAndType 44 32), (0, u "chargesCanceled"), (0, .class_ 46), (0, u "com/example/coverbill/coverbill/charge/PriceItemChangesCountedPinLaw"), (2, u "law"), (0, u "(II)Z")] 3

def k1m0 : Method := { name := "<init>", desc := "()V", sig := { parameters := [], returnType := none }, accessFlags := 2, code := none }
def k1c1 : Code := { maxStack := 3, maxLocals := 10, code := code, exceptionTable := #[], attributes := #[] }
def k1m1 : Method := { name := "law", desc := "(II)Z", sig := { parameters := [.int, .int], returnType := some .boolean }, accessFlags := 9, code := some k1c1 }
/-- com/example/coverbill/coverbill/charge/PriceItemChangesCountedPinLaw -/
def k1 : Class := { plain "com/example/coverbill/coverbill/charge/PriceItemChangesCountedPinLaw" (some 0) with
  accessFlags := 49
  interfaces := #[]
  cf := some (fileOf pool1 45 #[] #[{ accessFlags := 2, nameIndex := 5, descriptorIndex := 6, attributes := #[] }, { accessFlags := 9, nameIndex := 49, descriptorIndex := 50, attributes := #[] }] 49 2 #[] #[])
  fields := #[]
  methods := #[k1m0, k1m1]
  instanceTypes := #[]
  staticTypes := #[]
  resolved := Array.replicate 54 none
  statics := none }

def pool2 : Array CpInfo := pool [(1, .methodref 2 3), (0, .class_ 4), (0, .nameAndType 5 6), (0, u "java/lang/Object"), (0, u "<init>"), (0, u "()V"), (0, .class_ 8), (0, u "java/util/ArrayList"), (0, .methodref 7 3), (0, .fieldref 11 12), (0, .class_ 13), (0, .nameAndType 14 15), (0, u "com/example/coverbill/coverbill/charge/PriceItemChanges"), (0, u "created"), (0, u "Ljava/util/List;"), (0, .fieldref 11 17), (0, .nameAndType 18 15), (0, u "updated"), (0, .class_ 20), (0, u "java/util/LinkedHashMap"), (0, .methodref 19 3), (0, .fieldref 11 23), (0, .nameAndType 24 25), (0, u "lastDays"), (0, u "Ljava/util/Map;"), (0, .fieldref 11 27), (0, .nameAndType 28 15), (0, u "errors"), (2, u "priceItems"), (0, u "I"), (0, .class_ 34), (0, u "com/example/coverbill/coverbill/charge/ChargeRunResult"), (0, .fieldref 11 36), (0, .nameAndType 37 32), (0, u "complete"), (0, .fieldref 11 39), (0, .nameAndType 40 32), (0, u "failed"), (0, .interfaceMethodref 42 43), (0, .class_ 44), (0, .nameAndType 45 46), (0, u "java/util/List"), (0, u "size"), (0, u "()I"), (0, .fieldref 11 48), (0, .nameAndType 49 32), (0, u "endDatesChanged"), (0, .fieldref 11 51), (0, .nameAndType 52 32), (0, u "canceled"), (0, .methodref 33 54), (0, .nameAndType 5 55), (0, u "(IIIII)V"), (5, u "()Ljava/util/List;"), (87, u "HELD"), (0, u "Ljava/time/LocalDate;"), (158, u "FAULTS_NAMED"), (12, u "counted"), (0, u "()Lcom/example/coverbill/coverbill/charge/ChargeRunResult;")] 25

def k2c0 : Code := { maxStack := 3, maxLocals := 1, code := prog_38_method_1_code, exceptionTable := #[], attributes := #[] }
def k2m0 : Method := { name := "<init>", desc := "()V", sig := { parameters := [], returnType := none }, accessFlags := 0, code := some k2c0 }
def k2c1 : Code := { maxStack := 1, maxLocals := 1, code := prog_38_method_2_code, exceptionTable := #[], attributes := #[] }
def k2m1 : Method := { name := "created", desc := "()Ljava/util/List;", sig := { parameters := [], returnType := some (.object "java/util/List") }, accessFlags := 0, code := some k2c1 }
def k2c2 : Code := { maxStack := 1, maxLocals := 1, code := prog_38_method_3_code, exceptionTable := #[], attributes := #[] }
def k2m2 : Method := { name := "updated", desc := "()Ljava/util/List;", sig := { parameters := [], returnType := some (.object "java/util/List") }, accessFlags := 0, code := some k2c2 }
def k2c3 : Code := { maxStack := 7, maxLocals := 1, code := prog_38_method_7_code, exceptionTable := #[], attributes := #[] }
def k2m3 : Method := { name := "counted", desc := "()Lcom/example/coverbill/coverbill/charge/ChargeRunResult;", sig := { parameters := [], returnType := some (.object "com/example/coverbill/coverbill/charge/ChargeRunResult") }, accessFlags := 0, code := some k2c3 }
/-- com/example/coverbill/coverbill/charge/PriceItemChanges -/
def k2 : Class := { plain "com/example/coverbill/coverbill/charge/PriceItemChanges" (some 0) with
  accessFlags := 48
  interfaces := #[]
  cf := some (fileOf pool2 11 #[] #[{ accessFlags := 0, nameIndex := 5, descriptorIndex := 6, attributes := #[] }, { accessFlags := 0, nameIndex := 14, descriptorIndex := 61, attributes := #[] }, { accessFlags := 0, nameIndex := 18, descriptorIndex := 61, attributes := #[] }, { accessFlags := 0, nameIndex := 322, descriptorIndex := 323, attributes := #[] }] 48 2 #[] #[{ accessFlags := 26, nameIndex := 149, descriptorIndex := 150, attributes := #[] }, { accessFlags := 26, nameIndex := 309, descriptorIndex := 32, attributes := #[] }, { accessFlags := 18, nameIndex := 14, descriptorIndex := 15, attributes := #[] }, { accessFlags := 18, nameIndex := 18, descriptorIndex := 15, attributes := #[] }, { accessFlags := 18, nameIndex := 24, descriptorIndex := 25, attributes := #[] }, { accessFlags := 18, nameIndex := 28, descriptorIndex := 15, attributes := #[] }, { accessFlags := 2, nameIndex := 31, descriptorIndex := 32, attributes := #[] }, { accessFlags := 2, nameIndex := 37, descriptorIndex := 32, attributes := #[] }, { accessFlags := 2, nameIndex := 49, descriptorIndex := 32, attributes := #[] }, { accessFlags := 2, nameIndex := 52, descriptorIndex := 32, attributes := #[] }, { accessFlags := 2, nameIndex := 40, descriptorIndex := 32, attributes := #[] }])
  fields := #[{ name := "HELD", type := (.object "java/time/LocalDate"), accessFlags := 26, slot := 0, constantValue := 0 }, { name := "FAULTS_NAMED", type := .int, accessFlags := 26, slot := 1, constantValue := 0 }, { name := "created", type := (.object "java/util/List"), accessFlags := 18, slot := 0, constantValue := 0 }, { name := "updated", type := (.object "java/util/List"), accessFlags := 18, slot := 1, constantValue := 0 }, { name := "lastDays", type := (.object "java/util/Map"), accessFlags := 18, slot := 2, constantValue := 0 }, { name := "errors", type := (.object "java/util/List"), accessFlags := 18, slot := 3, constantValue := 0 }, { name := "priceItems", type := .int, accessFlags := 2, slot := 4, constantValue := 0 }, { name := "complete", type := .int, accessFlags := 2, slot := 5, constantValue := 0 }, { name := "endDatesChanged", type := .int, accessFlags := 2, slot := 6, constantValue := 0 }, { name := "canceled", type := .int, accessFlags := 2, slot := 7, constantValue := 0 }, { name := "failed", type := .int, accessFlags := 2, slot := 8, constantValue := 0 }]
  methods := #[k2m0, k2m1, k2m2, k2m3]
  instanceTypes := #[(.object "java/util/List"), (.object "java/util/List"), (.object "java/util/Map"), (.object "java/util/List"), .int, .int, .int, .int, .int]
  staticTypes := #[(.object "java/time/LocalDate"), .int]
  resolved := Array.replicate 349 none
  statics := none }

def pool3 : Array CpInfo := pool [(8, .class_ 10), (1, u "java/lang/Iterable"), (24, .class_ 36), (0, u "java/lang/Object")] 25

/-- java/lang/Iterable -/
def k3 : Class := { plain "java/lang/Iterable" (some 0) with
  accessFlags := 1537
  interfaces := #[]
  cf := some (fileOf pool3 8 #[] #[] 1537 35 #[] #[])
  fields := #[]
  methods := #[]
  instanceTypes := #[]
  staticTypes := #[]
  resolved := Array.replicate 62 none
  statics := none }

def pool4 : Array CpInfo := pool [(10, .class_ 12), (1, u "java/util/Collection"), (47, .class_ 61), (0, u "java/lang/Object"), (0, .class_ 63), (0, u "java/lang/Iterable")] 51

/-- java/util/Collection -/
def k4 : Class := { plain "java/util/Collection" (some 0) with
  accessFlags := 1537
  interfaces := #[3]
  cf := some (fileOf pool4 10 #[] #[] 1537 60 #[62] #[])
  fields := #[]
  methods := #[]
  instanceTypes := #[]
  staticTypes := #[]
  resolved := Array.replicate 115 none
  statics := none }

def pool5 : Array CpInfo := pool [(1, .methodref 2 3), (0, .class_ 4), (0, .nameAndType 5 6), (0, u "java/lang/Object"), (0, u "<init>"), (0, u "()V"), (1, .class_ 10), (1, u "java/util/AbstractCollection"), (66, .class_ 78), (0, u "java/util/Collection")] 81

def k5c0 : Code := { maxStack := 1, maxLocals := 1, code := jdk_22_method_1_code, exceptionTable := #[], attributes := #[] }
def k5m0 : Method := { name := "<init>", desc := "()V", sig := { parameters := [], returnType := none }, accessFlags := 4, code := some k5c0 }
/-- java/util/AbstractCollection -/
def k5 : Class := { plain "java/util/AbstractCollection" (some 0) with
  accessFlags := 1057
  interfaces := #[4]
  cf := some (fileOf pool5 8 #[] #[{ accessFlags := 4, nameIndex := 5, descriptorIndex := 6, attributes := #[] }] 1057 2 #[77] #[])
  fields := #[]
  methods := #[k5m0]
  instanceTypes := #[]
  staticTypes := #[]
  resolved := Array.replicate 160 none
  statics := none }

def pool6 : Array CpInfo := pool [(8, .class_ 10), (1, u "java/util/SequencedCollection"), (15, .class_ 27), (0, u "java/lang/Object"), (0, .class_ 29), (0, u "java/util/Collection")] 27

/-- java/util/SequencedCollection -/
def k6 : Class := { plain "java/util/SequencedCollection" (some 0) with
  accessFlags := 1537
  interfaces := #[4]
  cf := some (fileOf pool6 8 #[] #[] 1537 26 #[28] #[])
  fields := #[]
  methods := #[]
  instanceTypes := #[]
  staticTypes := #[]
  resolved := Array.replicate 57 none
  statics := none }

def pool7 : Array CpInfo := pool [(8, .class_ 10), (1, u "java/util/List"), (49, u "add"), (3, u "(Ljava/lang/Object;)Z"), (14, u "size"), (0, u "()I"), (22, .class_ 104), (0, u "java/lang/Object"), (15, .class_ 121), (0, u "java/util/SequencedCollection")] 129

def k7m0 : Method := { name := "size", desc := "()I", sig := { parameters := [], returnType := some .int }, accessFlags := 1025, code := none }
def k7m1 : Method := { name := "add", desc := "(Ljava/lang/Object;)Z", sig := { parameters := [(.object "java/lang/Object")], returnType := some .boolean }, accessFlags := 1025, code := none }
/-- java/util/List -/
def k7 : Class := { plain "java/util/List" (some 0) with
  accessFlags := 1537
  interfaces := #[6]
  cf := some (fileOf pool7 8 #[] #[{ accessFlags := 1025, nameIndex := 79, descriptorIndex := 80, attributes := #[] }, { accessFlags := 1025, nameIndex := 60, descriptorIndex := 64, attributes := #[] }] 1537 103 #[120] #[])
  fields := #[]
  methods := #[k7m0, k7m1]
  instanceTypes := #[]
  staticTypes := #[]
  resolved := Array.replicate 251 none
  statics := none }

def pool8 : Array CpInfo := pool [(1, .methodref 2 3), (0, .class_ 4), (0, .nameAndType 5 6), (0, u "java/util/AbstractCollection"), (0, u "<init>"), (0, u "()V"), (0, .fieldref 8 9), (0, .class_ 10), (0, .nameAndType 11 12), (0, u "java/util/AbstractList"), (0, u "modCount"), (0, u "I"), (64, .class_ 78), (0, u "java/util/AbstractList$Itr"), (3, .class_ 83), (0, u "java/util/AbstractList$ListItr"), (9, .class_ 94), (0, u "java/util/AbstractList$RandomAccessSubList"), (3, .class_ 99), (0, u "java/util/AbstractList$SubList"), (33, .class_ 134), (0, u "java/util/List"), (73, .class_ 209), (0, u "java/util/AbstractList$SubList$1"), (0, .class_ 211), (0, u "java/util/AbstractList$RandomAccessSpliterator")] 6

def k8c0 : Code := { maxStack := 2, maxLocals := 1, code := jdk_39_method_1_code, exceptionTable := #[], attributes := #[] }
def k8m0 : Method := { name := "<init>", desc := "()V", sig := { parameters := [], returnType := none }, accessFlags := 4, code := some k8c0 }
/-- java/util/AbstractList -/
def k8 : Class := { plain "java/util/AbstractList" (some 5) with
  accessFlags := 1057
  interfaces := #[7]
  cf := some (fileOf pool8 8 #[.nestMembers #[93, 98, 208, 210, 82, 77]] #[{ accessFlags := 4, nameIndex := 5, descriptorIndex := 6, attributes := #[] }] 1057 2 #[133] #[{ accessFlags := 132, nameIndex := 11, descriptorIndex := 12, attributes := #[] }])
  fields := #[{ name := "modCount", type := .int, accessFlags := 132, slot := 0, constantValue := 0 }]
  methods := #[k8m0]
  instanceTypes := #[.int]
  staticTypes := #[]
  resolved := Array.replicate 218 none
  statics := none }

def pool9 : Array CpInfo := pool [(1, .class_ 2), (0, u "java/util/RandomAccess"), (0, .class_ 4), (0, u "java/lang/Object")] 2

/-- java/util/RandomAccess -/
def k9 : Class := { plain "java/util/RandomAccess" (some 0) with
  accessFlags := 1537
  interfaces := #[]
  cf := some (fileOf pool9 1 #[] #[] 1537 3 #[] #[])
  fields := #[]
  methods := #[]
  instanceTypes := #[]
  staticTypes := #[]
  resolved := Array.replicate 7 none
  statics := none }

def pool10 : Array CpInfo := pool [(1, .class_ 2), (0, u "java/lang/Cloneable"), (0, .class_ 4), (0, u "java/lang/Object")] 2

/-- java/lang/Cloneable -/
def k10 : Class := { plain "java/lang/Cloneable" (some 0) with
  accessFlags := 1537
  interfaces := #[]
  cf := some (fileOf pool10 1 #[] #[] 1537 3 #[] #[])
  fields := #[]
  methods := #[]
  instanceTypes := #[]
  staticTypes := #[]
  resolved := Array.replicate 7 none
  statics := none }

def pool11 : Array CpInfo := pool [(1, .class_ 2), (0, u "java/io/Serializable"), (0, .class_ 4), (0, u "java/lang/Object")] 2

/-- java/io/Serializable -/
def k11 : Class := { plain "java/io/Serializable" (some 0) with
  accessFlags := 1537
  interfaces := #[]
  cf := some (fileOf pool11 1 #[] #[] 1537 3 #[] #[])
  fields := #[]
  methods := #[]
  instanceTypes := #[]
  staticTypes := #[]
  resolved := Array.replicate 7 none
  statics := none }

def pool12 : Array CpInfo := pool [(1, .methodref 2 3), (0, .class_ 4), (0, .nameAndType 5 6), (0, u "java/util/AbstractList"), (0, u "<init>"), (0, u "()V"), (0, .class_ 8), (0, u "java/lang/Object"), (0, .fieldref 10 11), (0, .class_ 12), (0, .nameAndType 13 14), (0, u "java/util/ArrayList"), (0, u "elementData"), (0, u "[Ljava/lang/Object;"), (2, u "EMPTY_ELEMENTDATA"), (21, .fieldref 10 40), (0, .nameAndType 41 14), (0, u "DEFAULTCAPACITY_EMPTY_ELEMENTDATA"), (5, u "()[Ljava/lang/Object;"), (0, .fieldref 10 49), (0, .nameAndType 50 51), (0, u "size"), (0, u "I"), (11, .fieldref 10 64), (0, .nameAndType 65 51), (0, u "modCount"), (3, .methodref 10 70), (0, .nameAndType 71 72), (0, u "grow"), (0, u "(I)[Ljava/lang/Object;"), (6, .methodref 80 81), (0, .class_ 82), (0, .nameAndType 83 84), (0, u "java/lang/Math"), (0, u "max"), (0, u "(II)I"), (11, u "(Ljava/lang/Object;)Z"), (32, .methodref 10 130), (0, .nameAndType 71 47), (0, .methodref 10 132), (0, .nameAndType 133 134), (0, u "add"), (0, u "(Ljava/lang/Object;[Ljava/lang/Object;I)V"), (13, .class_ 149), (0, u "java/util/List"), (36, u "()I"), (75, .class_ 263), (0, u "java/util/ArrayList$ListItr"), (3, .class_ 268), (0, u "java/util/ArrayList$Itr"), (7, .class_ 277), (0, u "java/util/ArrayList$SubList"), (12, .class_ 291), (0, u "java/util/ArrayList$ArrayListSpliterator"), (37, .class_ 330), (0, u "java/util/RandomAccess"), (0, .class_ 332), (0, u "java/lang/Cloneable"), (0, .class_ 334), (0, u "java/io/Serializable"), (0, u "serialVersionUID"), (0, u "J"), (3, u "DEFAULT_CAPACITY"), (159, .class_ 501), (0, u "java/util/ArrayList$SubList$2"), (0, .class_ 503), (0, u "java/util/ArrayList$SubList$1")] 5

def k12c0 : Code := { maxStack := 2, maxLocals := 1, code := jdk_38_method_2_code, exceptionTable := #[], attributes := #[] }
def k12m0 : Method := { name := "<init>", desc := "()V", sig := { parameters := [], returnType := none }, accessFlags := 1, code := some k12c0 }
def k12c1 : Code := { maxStack := 4, maxLocals := 4, code := jdk_38_method_6_code, exceptionTable := #[], attributes := #[] }
def k12m1 : Method := { name := "grow", desc := "(I)[Ljava/lang/Object;", sig := { parameters := [.int], returnType := some (.array (.object "java/lang/Object")) }, accessFlags := 2, code := some k12c1 }
def k12c2 : Code := { maxStack := 3, maxLocals := 1, code := jdk_38_method_7_code, exceptionTable := #[], attributes := #[] }
def k12m2 : Method := { name := "grow", desc := "()[Ljava/lang/Object;", sig := { parameters := [], returnType := some (.array (.object "java/lang/Object")) }, accessFlags := 2, code := some k12c2 }
def k12c3 : Code := { maxStack := 1, maxLocals := 1, code := jdk_38_method_8_code, exceptionTable := #[], attributes := #[] }
def k12m3 : Method := { name := "size", desc := "()I", sig := { parameters := [], returnType := some .int }, accessFlags := 1, code := some k12c3 }
def k12c4 : Code := { maxStack := 3, maxLocals := 4, code := jdk_38_method_24_code, exceptionTable := #[], attributes := #[] }
def k12m4 : Method := { name := "add", desc := "(Ljava/lang/Object;[Ljava/lang/Object;I)V", sig := { parameters := [(.object "java/lang/Object"), (.array (.object "java/lang/Object")), .int], returnType := none }, accessFlags := 2, code := some k12c4 }
def k12c5 : Code := { maxStack := 4, maxLocals := 2, code := jdk_38_method_25_code, exceptionTable := #[], attributes := #[] }
def k12m5 : Method := { name := "add", desc := "(Ljava/lang/Object;)Z", sig := { parameters := [(.object "java/lang/Object")], returnType := some .boolean }, accessFlags := 1, code := some k12c5 }
/-- java/util/ArrayList -/
def k12 : Class := { plain "java/util/ArrayList" (some 8) with
  accessFlags := 33
  interfaces := #[7, 9, 10, 11]
  cf := some (fileOf pool12 10 #[.nestMembers #[290, 276, 500, 502, 262, 267]] #[{ accessFlags := 1, nameIndex := 5, descriptorIndex := 6, attributes := #[] }, { accessFlags := 2, nameIndex := 71, descriptorIndex := 72, attributes := #[] }, { accessFlags := 2, nameIndex := 71, descriptorIndex := 47, attributes := #[] }, { accessFlags := 1, nameIndex := 50, descriptorIndex := 186, attributes := #[] }, { accessFlags := 2, nameIndex := 133, descriptorIndex := 134, attributes := #[] }, { accessFlags := 1, nameIndex := 133, descriptorIndex := 96, attributes := #[] }] 33 2 #[148, 329, 331, 333] #[{ accessFlags := 26, nameIndex := 335, descriptorIndex := 336, attributes := #[] }, { accessFlags := 26, nameIndex := 340, descriptorIndex := 51, attributes := #[] }, { accessFlags := 26, nameIndex := 17, descriptorIndex := 14, attributes := #[] }, { accessFlags := 26, nameIndex := 41, descriptorIndex := 14, attributes := #[] }, { accessFlags := 128, nameIndex := 13, descriptorIndex := 14, attributes := #[] }, { accessFlags := 2, nameIndex := 50, descriptorIndex := 51, attributes := #[] }])
  fields := #[{ name := "serialVersionUID", type := .long, accessFlags := 26, slot := 0, constantValue := 0 }, { name := "DEFAULT_CAPACITY", type := .int, accessFlags := 26, slot := 1, constantValue := 0 }, { name := "EMPTY_ELEMENTDATA", type := (.array (.object "java/lang/Object")), accessFlags := 26, slot := 2, constantValue := 0 }, { name := "DEFAULTCAPACITY_EMPTY_ELEMENTDATA", type := (.array (.object "java/lang/Object")), accessFlags := 26, slot := 3, constantValue := 0 }, { name := "elementData", type := (.array (.object "java/lang/Object")), accessFlags := 128, slot := 1, constantValue := 0 }, { name := "size", type := .int, accessFlags := 2, slot := 2, constantValue := 0 }]
  methods := #[k12m0, k12m1, k12m2, k12m3, k12m4, k12m5]
  instanceTypes := #[.int, (.array (.object "java/lang/Object")), .int]
  staticTypes := #[.long, .int, (.array (.object "java/lang/Object")), (.array (.object "java/lang/Object"))]
  resolved := Array.replicate 509 none
  statics := some 0 }

def pool13 : Array CpInfo := pool [(2, .class_ 4), (1, u "java/util/Map"), (31, .class_ 37), (0, u "java/util/Map$Entry"), (55, .class_ 94), (0, u "java/lang/Object")] 168

/-- java/util/Map -/
def k13 : Class := { plain "java/util/Map" (some 0) with
  accessFlags := 1537
  interfaces := #[]
  cf := some (fileOf pool13 2 #[.nestMembers #[36]] #[] 1537 93 #[] #[])
  fields := #[]
  methods := #[]
  instanceTypes := #[]
  staticTypes := #[]
  resolved := Array.replicate 263 none
  statics := none }

def pool14 : Array CpInfo := pool [(1, .methodref 2 3), (0, .class_ 4), (0, .nameAndType 5 6), (0, u "java/lang/Object"), (0, u "<init>"), (0, u "()V"), (1, .class_ 10), (1, u "java/util/AbstractMap"), (42, .class_ 54), (0, u "java/util/Map"), (9, u "keySet"), (0, u "Ljava/util/Set;"), (0, .class_ 67), (0, u "java/util/AbstractMap$1"), (5, u "values"), (0, u "Ljava/util/Collection;"), (0, .class_ 76), (0, u "java/util/AbstractMap$2"), (104, .class_ 182), (0, u "java/util/AbstractMap$ViewCollection"), (0, .class_ 184), (0, u "java/util/AbstractMap$SimpleImmutableEntry"), (0, .class_ 186), (0, u "java/util/AbstractMap$SimpleEntry"), (0, .class_ 188), (0, u "java/util/AbstractMap$2$1"), (0, .class_ 190), (0, u "java/util/AbstractMap$1$1")] 5

def k14c0 : Code := { maxStack := 1, maxLocals := 1, code := jdk_71_method_1_code, exceptionTable := #[], attributes := #[] }
def k14m0 : Method := { name := "<init>", desc := "()V", sig := { parameters := [], returnType := none }, accessFlags := 4, code := some k14c0 }
/-- java/util/AbstractMap -/
def k14 : Class := { plain "java/util/AbstractMap" (some 0) with
  accessFlags := 1057
  interfaces := #[13]
  cf := some (fileOf pool14 8 #[.nestMembers #[181, 183, 185, 75, 187, 66, 189]] #[{ accessFlags := 4, nameIndex := 5, descriptorIndex := 6, attributes := #[] }] 1057 2 #[53] #[{ accessFlags := 128, nameIndex := 64, descriptorIndex := 65, attributes := #[] }, { accessFlags := 128, nameIndex := 73, descriptorIndex := 74, attributes := #[] }])
  fields := #[{ name := "keySet", type := (.object "java/util/Set"), accessFlags := 128, slot := 0, constantValue := 0 }, { name := "values", type := (.object "java/util/Collection"), accessFlags := 128, slot := 1, constantValue := 0 }]
  methods := #[k14m0]
  instanceTypes := #[(.object "java/util/Set"), (.object "java/util/Collection")]
  staticTypes := #[]
  resolved := Array.replicate 196 none
  statics := none }

def pool15 : Array CpInfo := pool [(40, .class_ 41), (0, u "java/util/HashMap"), (1, .methodref 44 45), (0, .class_ 46), (0, .nameAndType 47 48), (0, u "java/util/AbstractMap"), (0, u "<init>"), (0, u "()V"), (32, .fieldref 40 82), (0, .nameAndType 83 84), (0, u "loadFactor"), (0, u "F"), (5, u "threshold"), (0, u "I"), (0, .float 1061158912), (8, .class_ 103), (1, u "java/util/Map"), (0, u "size"), (2, u "table"), (0, u "[Ljava/util/HashMap$Node;"), (14, u "entrySet"), (39, .class_ 165), (1, u "java/util/HashMap$Node"), (14, .class_ 181), (0, u "java/util/HashMap$TreeNode"), (22, u "modCount"), (37, u "Ljava/util/Set;"), (0, .class_ 244), (0, u "java/util/HashMap$KeySet"), (18, .class_ 264), (0, u "java/util/HashMap$Values"), (3, .class_ 269), (0, u "java/util/HashMap$EntrySet"), (76, .class_ 348), (1, u "java/util/HashMap$UnsafeHolder"), (43, .class_ 393), (0, u "java/lang/Cloneable"), (0, .class_ 395), (0, u "java/io/Serializable"), (0, u "serialVersionUID"), (0, u "J"), (3, u "DEFAULT_INITIAL_CAPACITY"), (1, u "MAXIMUM_CAPACITY"), (0, u "DEFAULT_LOAD_FACTOR"), (0, u "TREEIFY_THRESHOLD"), (1, u "UNTREEIFY_THRESHOLD"), (1, u "MIN_TREEIFY_CAPACITY"), (186, .class_ 597), (0, u "java/util/HashMap$EntrySpliterator"), (0, .class_ 599), (0, u "java/util/HashMap$ValueSpliterator"), (0, .class_ 601), (0, u "java/util/HashMap$KeySpliterator"), (0, .class_ 603), (0, u "java/util/HashMap$HashMapSpliterator"), (0, .class_ 605), (0, u "java/util/HashMap$EntryIterator"), (0, .class_ 607), (0, u "java/util/HashMap$ValueIterator"), (0, .class_ 609), (0, u "java/util/HashMap$KeyIterator"), (0, .class_ 611), (0, u "java/util/HashMap$HashIterator")] 17

def k15c0 : Code := { maxStack := 2, maxLocals := 1, code := jdk_69_method_7_code, exceptionTable := #[], attributes := #[] }
def k15m0 : Method := { name := "<init>", desc := "()V", sig := { parameters := [], returnType := none }, accessFlags := 1, code := some k15c0 }
/-- java/util/HashMap -/
def k15 : Class := { plain "java/util/HashMap" (some 14) with
  accessFlags := 33
  interfaces := #[13, 10, 11]
  cf := some (fileOf pool15 40 #[.nestMembers #[180, 596, 598, 600, 602, 604, 606, 608, 610, 346, 268, 263, 243, 163]] #[{ accessFlags := 1, nameIndex := 47, descriptorIndex := 48, attributes := #[] }] 33 44 #[101, 392, 394] #[{ accessFlags := 26, nameIndex := 396, descriptorIndex := 397, attributes := #[] }, { accessFlags := 24, nameIndex := 401, descriptorIndex := 91, attributes := #[] }, { accessFlags := 24, nameIndex := 403, descriptorIndex := 91, attributes := #[] }, { accessFlags := 24, nameIndex := 404, descriptorIndex := 84, attributes := #[] }, { accessFlags := 24, nameIndex := 405, descriptorIndex := 91, attributes := #[] }, { accessFlags := 24, nameIndex := 407, descriptorIndex := 91, attributes := #[] }, { accessFlags := 24, nameIndex := 409, descriptorIndex := 91, attributes := #[] }, { accessFlags := 128, nameIndex := 107, descriptorIndex := 108, attributes := #[] }, { accessFlags := 128, nameIndex := 123, descriptorIndex := 242, attributes := #[] }, { accessFlags := 128, nameIndex := 104, descriptorIndex := 91, attributes := #[] }, { accessFlags := 128, nameIndex := 204, descriptorIndex := 91, attributes := #[] }, { accessFlags := 0, nameIndex := 90, descriptorIndex := 91, attributes := #[] }, { accessFlags := 16, nameIndex := 83, descriptorIndex := 84, attributes := #[] }])
  fields := #[{ name := "serialVersionUID", type := .long, accessFlags := 26, slot := 0, constantValue := 0 }, { name := "DEFAULT_INITIAL_CAPACITY", type := .int, accessFlags := 24, slot := 1, constantValue := 0 }, { name := "MAXIMUM_CAPACITY", type := .int, accessFlags := 24, slot := 2, constantValue := 0 }, { name := "DEFAULT_LOAD_FACTOR", type := .float, accessFlags := 24, slot := 3, constantValue := 0 }, { name := "TREEIFY_THRESHOLD", type := .int, accessFlags := 24, slot := 4, constantValue := 0 }, { name := "UNTREEIFY_THRESHOLD", type := .int, accessFlags := 24, slot := 5, constantValue := 0 }, { name := "MIN_TREEIFY_CAPACITY", type := .int, accessFlags := 24, slot := 6, constantValue := 0 }, { name := "table", type := (.array (.object "java/util/HashMap$Node")), accessFlags := 128, slot := 2, constantValue := 0 }, { name := "entrySet", type := (.object "java/util/Set"), accessFlags := 128, slot := 3, constantValue := 0 }, { name := "size", type := .int, accessFlags := 128, slot := 4, constantValue := 0 }, { name := "modCount", type := .int, accessFlags := 128, slot := 5, constantValue := 0 }, { name := "threshold", type := .int, accessFlags := 0, slot := 6, constantValue := 0 }, { name := "loadFactor", type := .float, accessFlags := 16, slot := 7, constantValue := 0 }]
  methods := #[k15m0]
  instanceTypes := #[(.object "java/util/Set"), (.object "java/util/Collection"), (.array (.object "java/util/HashMap$Node")), (.object "java/util/Set"), .int, .int, .int, .float]
  staticTypes := #[.long, .int, .int, .float, .int, .int, .int]
  resolved := Array.replicate 629 none
  statics := none }

def pool16 : Array CpInfo := pool [(2, .class_ 4), (1, u "java/util/SequencedMap"), (38, .class_ 44), (0, u "java/util/SequencedMap$1SeqKeySet"), (3, .class_ 49), (0, u "java/util/SequencedMap$1SeqValues"), (1, .class_ 52), (0, u "java/util/SequencedMap$1SeqEntrySet"), (1, .class_ 55), (0, u "java/lang/Object"), (0, .class_ 57), (0, u "java/util/Map")] 48

/-- java/util/SequencedMap -/
def k16 : Class := { plain "java/util/SequencedMap" (some 0) with
  accessFlags := 1537
  interfaces := #[13]
  cf := some (fileOf pool16 2 #[.nestMembers #[51, 48, 43]] #[] 1537 54 #[56] #[])
  fields := #[]
  methods := #[]
  instanceTypes := #[]
  staticTypes := #[]
  resolved := Array.replicate 106 none
  statics := none }

def pool17 : Array CpInfo := pool [(1, .fieldref 2 3), (0, .class_ 4), (0, .nameAndType 5 6), (0, u "java/util/LinkedHashMap"), (0, u "putMode"), (0, u "I"), (2, u "head"), (0, u "Ljava/util/LinkedHashMap$Entry;"), (2, u "tail"), (1, .class_ 17), (1, u "java/util/LinkedHashMap$Entry"), (5, .class_ 25), (1, u "java/util/HashMap"), (1, u "()V"), (2, u "<init>"), (33, .fieldref 2 65), (0, .nameAndType 66 67), (0, u "accessOrder"), (0, u "Z"), (19, .methodref 23 88), (0, .nameAndType 30 27), (32, .class_ 122), (0, u "java/util/LinkedHashMap$LinkedKeySet"), (20, .class_ 144), (0, u "java/util/LinkedHashMap$LinkedValues"), (9, .class_ 155), (0, u "java/util/LinkedHashMap$LinkedEntrySet"), (44, .class_ 201), (0, u "java/util/LinkedHashMap$ReversedLinkedHashMapView"), (3, .class_ 206), (0, u "java/util/SequencedMap"), (0, u "serialVersionUID"), (0, u "J"), (5, u "PUT_NORM"), (1, u "PUT_FIRST"), (1, u "PUT_LAST"), (143, .class_ 363), (0, u "java/util/LinkedHashMap$LinkedEntryIterator"), (0, .class_ 365), (0, u "java/util/LinkedHashMap$LinkedValueIterator"), (0, .class_ 367), (0, u "java/util/LinkedHashMap$LinkedKeyIterator"), (0, .class_ 369), (0, u "java/util/LinkedHashMap$LinkedHashIterator")] 16

def k17c0 : Code := { maxStack := 2, maxLocals := 1, code := jdk_94_method_16_code, exceptionTable := #[], attributes := #[] }
def k17m0 : Method := { name := "<init>", desc := "()V", sig := { parameters := [], returnType := none }, accessFlags := 1, code := some k17c0 }
/-- java/util/LinkedHashMap -/
def k17 : Class := { plain "java/util/LinkedHashMap" (some 15) with
  accessFlags := 33
  interfaces := #[16]
  cf := some (fileOf pool17 2 #[.nestMembers #[200, 362, 364, 366, 368, 154, 143, 121, 15]] #[{ accessFlags := 1, nameIndex := 30, descriptorIndex := 27, attributes := #[] }] 33 23 #[205] #[{ accessFlags := 26, nameIndex := 207, descriptorIndex := 208, attributes := #[] }, { accessFlags := 128, nameIndex := 9, descriptorIndex := 10, attributes := #[] }, { accessFlags := 128, nameIndex := 13, descriptorIndex := 10, attributes := #[] }, { accessFlags := 16, nameIndex := 66, descriptorIndex := 67, attributes := #[] }, { accessFlags := 24, nameIndex := 214, descriptorIndex := 6, attributes := #[] }, { accessFlags := 24, nameIndex := 216, descriptorIndex := 6, attributes := #[] }, { accessFlags := 24, nameIndex := 218, descriptorIndex := 6, attributes := #[] }, { accessFlags := 128, nameIndex := 5, descriptorIndex := 6, attributes := #[] }])
  fields := #[{ name := "serialVersionUID", type := .long, accessFlags := 26, slot := 0, constantValue := 0 }, { name := "head", type := (.object "java/util/LinkedHashMap$Entry"), accessFlags := 128, slot := 8, constantValue := 0 }, { name := "tail", type := (.object "java/util/LinkedHashMap$Entry"), accessFlags := 128, slot := 9, constantValue := 0 }, { name := "accessOrder", type := .boolean, accessFlags := 16, slot := 10, constantValue := 0 }, { name := "PUT_NORM", type := .int, accessFlags := 24, slot := 1, constantValue := 0 }, { name := "PUT_FIRST", type := .int, accessFlags := 24, slot := 2, constantValue := 0 }, { name := "PUT_LAST", type := .int, accessFlags := 24, slot := 3, constantValue := 0 }, { name := "putMode", type := .int, accessFlags := 128, slot := 11, constantValue := 0 }]
  methods := #[k17m0]
  instanceTypes := #[(.object "java/util/Set"), (.object "java/util/Collection"), (.array (.object "java/util/HashMap$Node")), (.object "java/util/Set"), .int, .int, .int, .float, (.object "java/util/LinkedHashMap$Entry"), (.object "java/util/LinkedHashMap$Entry"), .boolean, .int]
  staticTypes := #[.long, .int, .int, .int]
  resolved := Array.replicate 386 none
  statics := none }

def pool18 : Array CpInfo := pool [(1, .class_ 2), (0, u "java/lang/Math"), (1, .class_ 6), (1, u "java/lang/Object"), (0, u "<init>"), (0, u "()V"), (89, .class_ 100), (1, u "java/lang/Math$RandomNumberGeneratorHolder"), (71, u "negativeZeroFloatBits"), (0, u "J"), (2, u "negativeZeroDoubleBits"), (21, u "max"), (46, u "$assertionsDisabled"), (0, u "Z"), (88, u "(II)I"), (2, u "twoToTheDoubleScaleDown"), (0, u "D"), (4, u "twoToTheDoubleScaleUp"), (9, u "E"), (3, u "PI"), (2, u "TAU"), (2, u "DEGREES_TO_RADIANS"), (0, u "RADIANS_TO_DEGREES")] 94

def k18m0 : Method := { name := "<init>", desc := "()V", sig := { parameters := [], returnType := none }, accessFlags := 2, code := none }
def k18c1 : Code := { maxStack := 2, maxLocals := 2, code := jdk_29_method_65_code, exceptionTable := #[], attributes := #[] }
def k18m1 : Method := { name := "max", desc := "(II)I", sig := { parameters := [.int, .int], returnType := some .int }, accessFlags := 9, code := some k18c1 }
/-- java/lang/Math -/
def k18 : Class := { plain "java/lang/Math" (some 0) with
  accessFlags := 49
  interfaces := #[]
  cf := some (fileOf pool18 1 #[.nestMembers #[98]] #[{ accessFlags := 2, nameIndex := 7, descriptorIndex := 8, attributes := #[] }, { accessFlags := 9, nameIndex := 198, descriptorIndex := 335, attributes := #[] }] 49 4 #[] #[{ accessFlags := 25, nameIndex := 354, descriptorIndex := 339, attributes := #[] }, { accessFlags := 25, nameIndex := 358, descriptorIndex := 339, attributes := #[] }, { accessFlags := 25, nameIndex := 361, descriptorIndex := 339, attributes := #[] }, { accessFlags := 26, nameIndex := 364, descriptorIndex := 339, attributes := #[] }, { accessFlags := 26, nameIndex := 365, descriptorIndex := 339, attributes := #[] }, { accessFlags := 26, nameIndex := 172, descriptorIndex := 173, attributes := #[] }, { accessFlags := 26, nameIndex := 176, descriptorIndex := 173, attributes := #[] }, { accessFlags := 8, nameIndex := 344, descriptorIndex := 339, attributes := #[] }, { accessFlags := 8, nameIndex := 338, descriptorIndex := 339, attributes := #[] }, { accessFlags := 4120, nameIndex := 245, descriptorIndex := 246, attributes := #[] }])
  fields := #[{ name := "E", type := .double, accessFlags := 25, slot := 0, constantValue := 0 }, { name := "PI", type := .double, accessFlags := 25, slot := 1, constantValue := 0 }, { name := "TAU", type := .double, accessFlags := 25, slot := 2, constantValue := 0 }, { name := "DEGREES_TO_RADIANS", type := .double, accessFlags := 26, slot := 3, constantValue := 0 }, { name := "RADIANS_TO_DEGREES", type := .double, accessFlags := 26, slot := 4, constantValue := 0 }, { name := "negativeZeroFloatBits", type := .long, accessFlags := 26, slot := 5, constantValue := 0 }, { name := "negativeZeroDoubleBits", type := .long, accessFlags := 26, slot := 6, constantValue := 0 }, { name := "twoToTheDoubleScaleUp", type := .double, accessFlags := 8, slot := 7, constantValue := 0 }, { name := "twoToTheDoubleScaleDown", type := .double, accessFlags := 8, slot := 8, constantValue := 0 }, { name := "$assertionsDisabled", type := .boolean, accessFlags := 4120, slot := 9, constantValue := 0 }]
  methods := #[k18m0, k18m1]
  instanceTypes := #[]
  staticTypes := #[.double, .double, .double, .double, .double, .long, .long, .double, .double, .boolean]
  resolved := Array.replicate 460 none
  statics := none }

def pool19 : Array CpInfo := pool [(1, .methodref 2 3), (0, .class_ 4), (0, .nameAndType 5 6), (0, u "java/lang/Object"), (0, u "<init>"), (0, u "()V"), (0, .fieldref 8 9), (0, .class_ 10), (0, .nameAndType 11 12), (0, u "com/example/coverbill/coverbill/charge/ChargeRunResult"), (0, u "complete"), (0, u "I"), (0, .fieldref 8 14), (0, .nameAndType 15 12), (0, u "error"), (0, .fieldref 8 17), (0, .nameAndType 18 12), (0, u "chargesCreated"), (0, .fieldref 8 20), (0, .nameAndType 21 12), (0, u "endDatesChanged"), (0, .fieldref 8 23), (0, .nameAndType 24 12), (0, u "chargesCanceled"), (2, u "(IIIII)V"), (2, u "NOTHING"), (0, u "Lcom/example/coverbill/coverbill/charge/ChargeRunResult;"), (4, u "()I")] 3

def k19c0 : Code := { maxStack := 2, maxLocals := 6, code := prog_37_method_1_code, exceptionTable := #[], attributes := #[] }
def k19m0 : Method := { name := "<init>", desc := "(IIIII)V", sig := { parameters := [.int, .int, .int, .int, .int], returnType := none }, accessFlags := 0, code := some k19c0 }
def k19c1 : Code := { maxStack := 1, maxLocals := 1, code := prog_37_method_3_code, exceptionTable := #[], attributes := #[] }
def k19m1 : Method := { name := "complete", desc := "()I", sig := { parameters := [], returnType := some .int }, accessFlags := 1, code := some k19c1 }
def k19c2 : Code := { maxStack := 1, maxLocals := 1, code := prog_37_method_4_code, exceptionTable := #[], attributes := #[] }
def k19m2 : Method := { name := "error", desc := "()I", sig := { parameters := [], returnType := some .int }, accessFlags := 1, code := some k19c2 }
def k19c3 : Code := { maxStack := 1, maxLocals := 1, code := prog_37_method_5_code, exceptionTable := #[], attributes := #[] }
def k19m3 : Method := { name := "chargesCreated", desc := "()I", sig := { parameters := [], returnType := some .int }, accessFlags := 1, code := some k19c3 }
def k19c4 : Code := { maxStack := 1, maxLocals := 1, code := prog_37_method_6_code, exceptionTable := #[], attributes := #[] }
def k19m4 : Method := { name := "endDatesChanged", desc := "()I", sig := { parameters := [], returnType := some .int }, accessFlags := 1, code := some k19c4 }
def k19c5 : Code := { maxStack := 1, maxLocals := 1, code := prog_37_method_7_code, exceptionTable := #[], attributes := #[] }
def k19m5 : Method := { name := "chargesCanceled", desc := "()I", sig := { parameters := [], returnType := some .int }, accessFlags := 1, code := some k19c5 }
/-- com/example/coverbill/coverbill/charge/ChargeRunResult -/
def k19 : Class := { plain "com/example/coverbill/coverbill/charge/ChargeRunResult" (some 0) with
  accessFlags := 49
  interfaces := #[]
  cf := some (fileOf pool19 8 #[] #[{ accessFlags := 0, nameIndex := 5, descriptorIndex := 27, attributes := #[] }, { accessFlags := 1, nameIndex := 11, descriptorIndex := 36, attributes := #[] }, { accessFlags := 1, nameIndex := 15, descriptorIndex := 36, attributes := #[] }, { accessFlags := 1, nameIndex := 18, descriptorIndex := 36, attributes := #[] }, { accessFlags := 1, nameIndex := 21, descriptorIndex := 36, attributes := #[] }, { accessFlags := 1, nameIndex := 24, descriptorIndex := 36, attributes := #[] }] 49 2 #[] #[{ accessFlags := 24, nameIndex := 30, descriptorIndex := 31, attributes := #[] }, { accessFlags := 18, nameIndex := 11, descriptorIndex := 12, attributes := #[] }, { accessFlags := 18, nameIndex := 15, descriptorIndex := 12, attributes := #[] }, { accessFlags := 18, nameIndex := 18, descriptorIndex := 12, attributes := #[] }, { accessFlags := 18, nameIndex := 21, descriptorIndex := 12, attributes := #[] }, { accessFlags := 18, nameIndex := 24, descriptorIndex := 12, attributes := #[] }])
  fields := #[{ name := "NOTHING", type := (.object "com/example/coverbill/coverbill/charge/ChargeRunResult"), accessFlags := 24, slot := 0, constantValue := 0 }, { name := "complete", type := .int, accessFlags := 18, slot := 0, constantValue := 0 }, { name := "error", type := .int, accessFlags := 18, slot := 1, constantValue := 0 }, { name := "chargesCreated", type := .int, accessFlags := 18, slot := 2, constantValue := 0 }, { name := "endDatesChanged", type := .int, accessFlags := 18, slot := 3, constantValue := 0 }, { name := "chargesCanceled", type := .int, accessFlags := 18, slot := 4, constantValue := 0 }]
  methods := #[k19m0, k19m1, k19m2, k19m3, k19m4, k19m5]
  instanceTypes := #[.int, .int, .int, .int, .int]
  staticTypes := #[(.object "com/example/coverbill/coverbill/charge/ChargeRunResult")]
  resolved := Array.replicate 40 none
  statics := none }

/-- the primitive byte -/
def k20 : Class := { plain "byte" none with kind := .primitive 'B', accessFlags := 0x411 }
/-- [B -/
def k21 : Class := { plain "[B" (some 0) with kind := .array 20 .byte, interfaces := #[10, 11], accessFlags := 1041 }

/-- the primitive int -/
def k22 : Class := { plain "int" none with kind := .primitive 'I', accessFlags := 0x411 }
/-- [I -/
def k23 : Class := { plain "[I" (some 0) with kind := .array 22 .int, interfaces := #[10, 11], accessFlags := 1041 }

/-- [Ljava/lang/Object; -/
def k24 : Class := { plain "[Ljava/lang/Object;" (some 0) with kind := .array 0 (.object "java/lang/Object"), interfaces := #[10, 11], accessFlags := 1041 }

def heap : Heap := #[{ cls := 12, slots := #[.long 0, .int 0, .ref 1, .ref 2], vm := .statics 12 },
  { cls := 24, slots := #[], vm := .none },
  { cls := 24, slots := #[], vm := .none }]
def classes : Array Class := #[k0, k1, k2, k3, k4, k5, k6, k7, k8, k9, k10, k11, k12, k13, k14, k15, k16, k17, k18, k19, k20, k21, k22, k23, k24]
def interned : List (Array UInt16 × Addr) := []
def slotsUsed : Nat := 4
def theMethod : MethodId := ⟨1, 1⟩
def args0 : Array Value := #[.int 1, .int 2]
def aboutOver (below : List Frame) : State where
  vm := { classes := classes, interned := interned.toArray }
  heap := heap
  slotsUsed := slotsUsed
  threads := #[{ frames := .invoking theMethod args0 :: below }]
def below0 : List Frame := [.native { method := ⟨0, 0⟩, args := #[] }]
def about1 : State := aboutOver below0
def p0 : Program := .bare "" "" ""
def e0 : Env := launch0.env 0 0 0
theorem w_frames : about1.frames = Frame.invoking theMethod args0 :: below0 := rfl
set_option maxRecDepth 65536 in
theorem w_args : argsFit about1.vm theMethod args0 = true := by decide +kernel
set_option maxRecDepth 65536 in
theorem w_heap : heapFits about1 = true := by decide +kernel
set_option maxRecDepth 65536 in
theorem w_runnable : about1.curStatus? = some .runnable := by decide +kernel
set_option maxRecDepth 65536 in
theorem w_alone : about1.alone = true := by decide +kernel
set_option maxRecDepth 65536 in
theorem w_named : about1.methodNamed? x = some theMethod := by decide +kernel
set_option maxRecDepth 65536 in
theorem w_hears : about1.hears theMethod below0 = true := by decide +kernel
set_option maxRecDepth 65536 in
theorem w_ripe : about1.ripe theMethod args0 below0 = true := by decide +kernel
theorem w_running : about1.status = .running := rfl
set_option maxRecDepth 65536 in
theorem w_room : about1.hasRoom e0.platform room_1 = true :=
  launch0.hasRoom_least _ room_1 (by decide +kernel) (by decide +kernel) (by decide +kernel) (by decide +kernel) (by decide +kernel) (by decide +kernel)
theorem allAtoms_all (ts : List Jvm.Cond) (a : Array Jvm.Value) (st : Jvm.State) : (allAtoms ts).before a st = ts.all (fun c => c.before a st) := by
  induction ts with
  | nil => rfl
  | cons c t ih =>
    show (Jvm.Cond.and c (allAtoms t)).before a st = _
    rw [Jvm.Cond.before_and, ih, List.all_cons]
def words1 : List Jvm.Cond := Jvm.Cond.code x code maxLocals ret :: tables_1
/-- a 'code' word, met by the world's own term for the bytes: nothing is compared byte by byte -/
theorem code_word {y : MethodName} {bytes : ByteArray} {mx : Nat} {rt : Option FieldType} {a : Array Value} {s : State} {m : MethodId} {meth : Method} {c : Code} (h1 : s.methodNamed? y = some m) (h2 : s.vm.method? m = some meth) (h3 : meth.code = some c) (h4 : c.code = bytes)
    (h5 : (c.maxLocals == mx && c.exceptionTable.isEmpty && decide (c.maxStack ≤ mostOperands) && decide (meth.sig.returnType = rt) && !meth.locks && decide (parseMethodDescriptor y.desc = some meth.sig)) = true) : (Jvm.Cond.code y bytes mx rt).before a s = true := by
  simp only [Bool.and_eq_true, beq_iff_eq, Bool.not_eq_true', decide_eq_true_eq] at h5
  obtain ⟨⟨⟨⟨⟨g1, g2⟩, g3⟩, g4⟩, g5⟩, g6⟩ := h5
  simp [Cond.before, Cond.holds, Cond.value, h1, h2, h3, h4, g1, g2, g3, g4, g5, g6]
def isCode : Jvm.Cond → Bool
  | .code _ _ _ _ => true
  | _ => false
theorem all_split {L : List Jvm.Cond} {P : Jvm.Cond → Bool} (h1 : L.all (fun c => isCode c || P c) = true) (h2 : ∀ c ∈ L.filter isCode, P c = true) : L.all P = true := by
  refine List.all_eq_true.mpr fun c hc => ?_
  have h := List.all_eq_true.mp h1 c hc
  rcases Bool.eq_false_or_eq_true (isCode c) with hi | hi
  · exact h2 c (List.mem_filter.mpr ⟨hc, hi⟩)
  · simpa [hi] using h
set_option maxRecDepth 65536 in
theorem w_c0 : (Jvm.Cond.code x code maxLocals ret).before args0 about1 = true := code_word (m := ⟨1, 1⟩) (meth := k1m1) (c := k1c1) (by decide +kernel) rfl rfl rfl (by decide +kernel)
set_option maxRecDepth 65536 in
theorem w_c1 : (Jvm.Cond.code ({ cls := "com/example/coverbill/coverbill/charge/PriceItemChanges", name := "<init>", desc := "()V" } : Jvm.MethodName) prog_38_method_1_code (1 : Nat) (Option.none : Option Jvm.ClassFile.FieldType)).before args0 about1 = true := code_word (m := ⟨2, 0⟩) (meth := k2m0) (c := k2c0) (by decide +kernel) rfl rfl rfl (by decide +kernel)
set_option maxRecDepth 65536 in
theorem w_c2 : (Jvm.Cond.code ({ cls := "java/lang/Object", name := "<init>", desc := "()V" } : Jvm.MethodName) object_method_1_code (1 : Nat) (Option.none : Option Jvm.ClassFile.FieldType)).before args0 about1 = true := code_word (m := ⟨0, 0⟩) (meth := k0m0) (c := k0c0) (by decide +kernel) rfl rfl rfl (by decide +kernel)
set_option maxRecDepth 65536 in
theorem w_c3 : (Jvm.Cond.code ({ cls := "java/util/ArrayList", name := "<init>", desc := "()V" } : Jvm.MethodName) jdk_38_method_2_code (1 : Nat) (Option.none : Option Jvm.ClassFile.FieldType)).before args0 about1 = true := code_word (m := ⟨12, 0⟩) (meth := k12m0) (c := k12c0) (by decide +kernel) rfl rfl rfl (by decide +kernel)
set_option maxRecDepth 65536 in
theorem w_c4 : (Jvm.Cond.code ({ cls := "java/util/AbstractList", name := "<init>", desc := "()V" } : Jvm.MethodName) jdk_39_method_1_code (1 : Nat) (Option.none : Option Jvm.ClassFile.FieldType)).before args0 about1 = true := code_word (m := ⟨8, 0⟩) (meth := k8m0) (c := k8c0) (by decide +kernel) rfl rfl rfl (by decide +kernel)
set_option maxRecDepth 65536 in
theorem w_c5 : (Jvm.Cond.code ({ cls := "java/util/AbstractCollection", name := "<init>", desc := "()V" } : Jvm.MethodName) jdk_22_method_1_code (1 : Nat) (Option.none : Option Jvm.ClassFile.FieldType)).before args0 about1 = true := code_word (m := ⟨5, 0⟩) (meth := k5m0) (c := k5c0) (by decide +kernel) rfl rfl rfl (by decide +kernel)
set_option maxRecDepth 65536 in
theorem w_c6 : (Jvm.Cond.code ({ cls := "java/util/LinkedHashMap", name := "<init>", desc := "()V" } : Jvm.MethodName) jdk_94_method_16_code (1 : Nat) (Option.none : Option Jvm.ClassFile.FieldType)).before args0 about1 = true := code_word (m := ⟨17, 0⟩) (meth := k17m0) (c := k17c0) (by decide +kernel) rfl rfl rfl (by decide +kernel)
set_option maxRecDepth 65536 in
theorem w_c7 : (Jvm.Cond.code ({ cls := "java/util/HashMap", name := "<init>", desc := "()V" } : Jvm.MethodName) jdk_69_method_7_code (1 : Nat) (Option.none : Option Jvm.ClassFile.FieldType)).before args0 about1 = true := code_word (m := ⟨15, 0⟩) (meth := k15m0) (c := k15c0) (by decide +kernel) rfl rfl rfl (by decide +kernel)
set_option maxRecDepth 65536 in
theorem w_c8 : (Jvm.Cond.code ({ cls := "java/util/AbstractMap", name := "<init>", desc := "()V" } : Jvm.MethodName) jdk_71_method_1_code (1 : Nat) (Option.none : Option Jvm.ClassFile.FieldType)).before args0 about1 = true := code_word (m := ⟨14, 0⟩) (meth := k14m0) (c := k14c0) (by decide +kernel) rfl rfl rfl (by decide +kernel)
set_option maxRecDepth 65536 in
theorem w_c9 : (Jvm.Cond.code ({ cls := "com/example/coverbill/coverbill/charge/PriceItemChanges", name := "created", desc := "()Ljava/util/List;" } : Jvm.MethodName) prog_38_method_2_code (1 : Nat) (Option.some (Jvm.ClassFile.FieldType.object "java/util/List"))).before args0 about1 = true := code_word (m := ⟨2, 1⟩) (meth := k2m1) (c := k2c1) (by decide +kernel) rfl rfl rfl (by decide +kernel)
set_option maxRecDepth 65536 in
theorem w_c10 : (Jvm.Cond.code ({ cls := "com/example/coverbill/coverbill/charge/PriceItemChanges", name := "updated", desc := "()Ljava/util/List;" } : Jvm.MethodName) prog_38_method_3_code (1 : Nat) (Option.some (Jvm.ClassFile.FieldType.object "java/util/List"))).before args0 about1 = true := code_word (m := ⟨2, 2⟩) (meth := k2m2) (c := k2c2) (by decide +kernel) rfl rfl rfl (by decide +kernel)
set_option maxRecDepth 65536 in
theorem w_c11 : (Jvm.Cond.code ({ cls := "java/util/ArrayList", name := "add", desc := "(Ljava/lang/Object;)Z" } : Jvm.MethodName) jdk_38_method_25_code (2 : Nat) (Option.some Jvm.ClassFile.FieldType.boolean)).before args0 about1 = true := code_word (m := ⟨12, 5⟩) (meth := k12m5) (c := k12c5) (by decide +kernel) rfl rfl rfl (by decide +kernel)
set_option maxRecDepth 65536 in
theorem w_c12 : (Jvm.Cond.code ({ cls := "java/util/ArrayList", name := "add", desc := "(Ljava/lang/Object;[Ljava/lang/Object;I)V" } : Jvm.MethodName) jdk_38_method_24_code (4 : Nat) (Option.none : Option Jvm.ClassFile.FieldType)).before args0 about1 = true := code_word (m := ⟨12, 4⟩) (meth := k12m4) (c := k12c4) (by decide +kernel) rfl rfl rfl (by decide +kernel)
set_option maxRecDepth 65536 in
theorem w_c13 : (Jvm.Cond.code ({ cls := "java/util/ArrayList", name := "grow", desc := "()[Ljava/lang/Object;" } : Jvm.MethodName) jdk_38_method_7_code (1 : Nat) (Option.some (Jvm.ClassFile.FieldType.array (Jvm.ClassFile.FieldType.object "java/lang/Object")))).before args0 about1 = true := code_word (m := ⟨12, 2⟩) (meth := k12m2) (c := k12c2) (by decide +kernel) rfl rfl rfl (by decide +kernel)
set_option maxRecDepth 65536 in
theorem w_c14 : (Jvm.Cond.code ({ cls := "java/util/ArrayList", name := "grow", desc := "(I)[Ljava/lang/Object;" } : Jvm.MethodName) jdk_38_method_6_code (4 : Nat) (Option.some (Jvm.ClassFile.FieldType.array (Jvm.ClassFile.FieldType.object "java/lang/Object")))).before args0 about1 = true := code_word (m := ⟨12, 1⟩) (meth := k12m1) (c := k12c1) (by decide +kernel) rfl rfl rfl (by decide +kernel)
set_option maxRecDepth 65536 in
theorem w_c15 : (Jvm.Cond.code ({ cls := "java/lang/Math", name := "max", desc := "(II)I" } : Jvm.MethodName) jdk_29_method_65_code (2 : Nat) (Option.some Jvm.ClassFile.FieldType.int)).before args0 about1 = true := code_word (m := ⟨18, 1⟩) (meth := k18m1) (c := k18c1) (by decide +kernel) rfl rfl rfl (by decide +kernel)
set_option maxRecDepth 65536 in
theorem w_c16 : (Jvm.Cond.code ({ cls := "com/example/coverbill/coverbill/charge/PriceItemChanges", name := "counted", desc := "()Lcom/example/coverbill/coverbill/charge/ChargeRunResult;" } : Jvm.MethodName) prog_38_method_7_code (1 : Nat) (Option.some (Jvm.ClassFile.FieldType.object "com/example/coverbill/coverbill/charge/ChargeRunResult"))).before args0 about1 = true := code_word (m := ⟨2, 3⟩) (meth := k2m3) (c := k2c3) (by decide +kernel) rfl rfl rfl (by decide +kernel)
set_option maxRecDepth 65536 in
theorem w_c17 : (Jvm.Cond.code ({ cls := "java/util/ArrayList", name := "size", desc := "()I" } : Jvm.MethodName) jdk_38_method_8_code (1 : Nat) (Option.some Jvm.ClassFile.FieldType.int)).before args0 about1 = true := code_word (m := ⟨12, 3⟩) (meth := k12m3) (c := k12c3) (by decide +kernel) rfl rfl rfl (by decide +kernel)
set_option maxRecDepth 65536 in
theorem w_c18 : (Jvm.Cond.code ({ cls := "com/example/coverbill/coverbill/charge/ChargeRunResult", name := "<init>", desc := "(IIIII)V" } : Jvm.MethodName) prog_37_method_1_code (6 : Nat) (Option.none : Option Jvm.ClassFile.FieldType)).before args0 about1 = true := code_word (m := ⟨19, 0⟩) (meth := k19m0) (c := k19c0) (by decide +kernel) rfl rfl rfl (by decide +kernel)
set_option maxRecDepth 65536 in
theorem w_c19 : (Jvm.Cond.code ({ cls := "com/example/coverbill/coverbill/charge/ChargeRunResult", name := "chargesCreated", desc := "()I" } : Jvm.MethodName) prog_37_method_5_code (1 : Nat) (Option.some Jvm.ClassFile.FieldType.int)).before args0 about1 = true := code_word (m := ⟨19, 3⟩) (meth := k19m3) (c := k19c3) (by decide +kernel) rfl rfl rfl (by decide +kernel)
set_option maxRecDepth 65536 in
theorem w_c20 : (Jvm.Cond.code ({ cls := "com/example/coverbill/coverbill/charge/ChargeRunResult", name := "complete", desc := "()I" } : Jvm.MethodName) prog_37_method_3_code (1 : Nat) (Option.some Jvm.ClassFile.FieldType.int)).before args0 about1 = true := code_word (m := ⟨19, 1⟩) (meth := k19m1) (c := k19c1) (by decide +kernel) rfl rfl rfl (by decide +kernel)
set_option maxRecDepth 65536 in
theorem w_c21 : (Jvm.Cond.code ({ cls := "com/example/coverbill/coverbill/charge/ChargeRunResult", name := "error", desc := "()I" } : Jvm.MethodName) prog_37_method_4_code (1 : Nat) (Option.some Jvm.ClassFile.FieldType.int)).before args0 about1 = true := code_word (m := ⟨19, 2⟩) (meth := k19m2) (c := k19c2) (by decide +kernel) rfl rfl rfl (by decide +kernel)
set_option maxRecDepth 65536 in
theorem w_c22 : (Jvm.Cond.code ({ cls := "com/example/coverbill/coverbill/charge/ChargeRunResult", name := "endDatesChanged", desc := "()I" } : Jvm.MethodName) prog_37_method_6_code (1 : Nat) (Option.some Jvm.ClassFile.FieldType.int)).before args0 about1 = true := code_word (m := ⟨19, 4⟩) (meth := k19m4) (c := k19c4) (by decide +kernel) rfl rfl rfl (by decide +kernel)
set_option maxRecDepth 65536 in
theorem w_c23 : (Jvm.Cond.code ({ cls := "com/example/coverbill/coverbill/charge/ChargeRunResult", name := "chargesCanceled", desc := "()I" } : Jvm.MethodName) prog_37_method_7_code (1 : Nat) (Option.some Jvm.ClassFile.FieldType.int)).before args0 about1 = true := code_word (m := ⟨19, 5⟩) (meth := k19m5) (c := k19c5) (by decide +kernel) rfl rfl rfl (by decide +kernel)
def codes1 : List Jvm.Cond := [Jvm.Cond.code x code maxLocals ret, Jvm.Cond.code ({ cls := "com/example/coverbill/coverbill/charge/PriceItemChanges", name := "<init>", desc := "()V" } : Jvm.MethodName) prog_38_method_1_code (1 : Nat) (Option.none : Option Jvm.ClassFile.FieldType), Jvm.Cond.code ({ cls := "java/lang/Object", name := "<init>", desc := "()V" } : Jvm.MethodName) object_method_1_code (1 : Nat) (Option.none : Option Jvm.ClassFile.FieldType), Jvm.Cond.code ({ cls := "java/util/ArrayList", name := "<init>", desc := "()V" } : Jvm.MethodName) jdk_38_method_2_code (1 : Nat) (Option.none : Option Jvm.ClassFile.FieldType), Jvm.Cond.code ({ cls := "java/util/AbstractList", name := "<init>", desc := "()V" } : Jvm.MethodName) jdk_39_method_1_code (1 : Nat) (Option.none : Option Jvm.ClassFile.FieldType), Jvm.Cond.code ({ cls := "java/util/AbstractCollection", name := "<init>", desc := "()V" } : Jvm.MethodName) jdk_22_method_1_code (1 : Nat) (Option.none : Option Jvm.ClassFile.FieldType), Jvm.Cond.code ({ cls := "java/util/LinkedHashMap", name := "<init>", desc := "()V" } : Jvm.MethodName) jdk_94_method_16_code (1 : Nat) (Option.none : Option Jvm.ClassFile.FieldType), Jvm.Cond.code ({ cls := "java/util/HashMap", name := "<init>", desc := "()V" } : Jvm.MethodName) jdk_69_method_7_code (1 : Nat) (Option.none : Option Jvm.ClassFile.FieldType), Jvm.Cond.code ({ cls := "java/util/AbstractMap", name := "<init>", desc := "()V" } : Jvm.MethodName) jdk_71_method_1_code (1 : Nat) (Option.none : Option Jvm.ClassFile.FieldType), Jvm.Cond.code ({ cls := "com/example/coverbill/coverbill/charge/PriceItemChanges", name := "created", desc := "()Ljava/util/List;" } : Jvm.MethodName) prog_38_method_2_code (1 : Nat) (Option.some (Jvm.ClassFile.FieldType.object "java/util/List")), Jvm.Cond.code ({ cls := "com/example/coverbill/coverbill/charge/PriceItemChanges", name := "updated", desc := "()Ljava/util/List;" } : Jvm.MethodName) prog_38_method_3_code (1 : Nat) (Option.some (Jvm.ClassFile.FieldType.object "java/util/List")), Jvm.Cond.code ({ cls := "java/util/ArrayList", name := "add", desc := "(Ljava/lang/Object;)Z" } : Jvm.MethodName) jdk_38_method_25_code (2 : Nat) (Option.some Jvm.ClassFile.FieldType.boolean), Jvm.Cond.code ({ cls := "java/util/ArrayList", name := "add", desc := "(Ljava/lang/Object;[Ljava/lang/Object;I)V" } : Jvm.MethodName) jdk_38_method_24_code (4 : Nat) (Option.none : Option Jvm.ClassFile.FieldType), Jvm.Cond.code ({ cls := "java/util/ArrayList", name := "grow", desc := "()[Ljava/lang/Object;" } : Jvm.MethodName) jdk_38_method_7_code (1 : Nat) (Option.some (Jvm.ClassFile.FieldType.array (Jvm.ClassFile.FieldType.object "java/lang/Object"))), Jvm.Cond.code ({ cls := "java/util/ArrayList", name := "grow", desc := "(I)[Ljava/lang/Object;" } : Jvm.MethodName) jdk_38_method_6_code (4 : Nat) (Option.some (Jvm.ClassFile.FieldType.array (Jvm.ClassFile.FieldType.object "java/lang/Object"))), Jvm.Cond.code ({ cls := "java/lang/Math", name := "max", desc := "(II)I" } : Jvm.MethodName) jdk_29_method_65_code (2 : Nat) (Option.some Jvm.ClassFile.FieldType.int), Jvm.Cond.code ({ cls := "com/example/coverbill/coverbill/charge/PriceItemChanges", name := "counted", desc := "()Lcom/example/coverbill/coverbill/charge/ChargeRunResult;" } : Jvm.MethodName) prog_38_method_7_code (1 : Nat) (Option.some (Jvm.ClassFile.FieldType.object "com/example/coverbill/coverbill/charge/ChargeRunResult")), Jvm.Cond.code ({ cls := "java/util/ArrayList", name := "size", desc := "()I" } : Jvm.MethodName) jdk_38_method_8_code (1 : Nat) (Option.some Jvm.ClassFile.FieldType.int), Jvm.Cond.code ({ cls := "com/example/coverbill/coverbill/charge/ChargeRunResult", name := "<init>", desc := "(IIIII)V" } : Jvm.MethodName) prog_37_method_1_code (6 : Nat) (Option.none : Option Jvm.ClassFile.FieldType), Jvm.Cond.code ({ cls := "com/example/coverbill/coverbill/charge/ChargeRunResult", name := "chargesCreated", desc := "()I" } : Jvm.MethodName) prog_37_method_5_code (1 : Nat) (Option.some Jvm.ClassFile.FieldType.int), Jvm.Cond.code ({ cls := "com/example/coverbill/coverbill/charge/ChargeRunResult", name := "complete", desc := "()I" } : Jvm.MethodName) prog_37_method_3_code (1 : Nat) (Option.some Jvm.ClassFile.FieldType.int), Jvm.Cond.code ({ cls := "com/example/coverbill/coverbill/charge/ChargeRunResult", name := "error", desc := "()I" } : Jvm.MethodName) prog_37_method_4_code (1 : Nat) (Option.some Jvm.ClassFile.FieldType.int), Jvm.Cond.code ({ cls := "com/example/coverbill/coverbill/charge/ChargeRunResult", name := "endDatesChanged", desc := "()I" } : Jvm.MethodName) prog_37_method_6_code (1 : Nat) (Option.some Jvm.ClassFile.FieldType.int), Jvm.Cond.code ({ cls := "com/example/coverbill/coverbill/charge/ChargeRunResult", name := "chargesCanceled", desc := "()I" } : Jvm.MethodName) prog_37_method_7_code (1 : Nat) (Option.some Jvm.ClassFile.FieldType.int)]
set_option maxRecDepth 65536 in
theorem codes_eq : words1.filter isCode = codes1 := rfl
theorem w_codes : ∀ c ∈ words1.filter isCode, c.before args0 about1 = true := by
  rw [codes_eq]
  intro c hc
  simp only [codes1, List.mem_cons, List.not_mem_nil, or_false] at hc
  rcases hc with rfl | rfl | rfl | rfl | rfl | rfl | rfl | rfl | rfl | rfl | rfl | rfl | rfl | rfl | rfl | rfl | rfl | rfl | rfl | rfl | rfl | rfl | rfl | rfl
  · exact w_c0
  · exact w_c1
  · exact w_c2
  · exact w_c3
  · exact w_c4
  · exact w_c5
  · exact w_c6
  · exact w_c7
  · exact w_c8
  · exact w_c9
  · exact w_c10
  · exact w_c11
  · exact w_c12
  · exact w_c13
  · exact w_c14
  · exact w_c15
  · exact w_c16
  · exact w_c17
  · exact w_c18
  · exact w_c19
  · exact w_c20
  · exact w_c21
  · exact w_c22
  · exact w_c23
set_option maxRecDepth 65536 in
theorem w_t1 : (words1.take 24).all (fun c => isCode c || c.before args0 about1) = true := by decide +kernel
set_option maxRecDepth 65536 in
theorem w_t2 : ((words1.drop 24).take 24).all (fun c => isCode c || c.before args0 about1) = true := by decide +kernel
set_option maxRecDepth 65536 in
theorem w_t3 : (((words1.drop 24).drop 24).take 24).all (fun c => isCode c || c.before args0 about1) = true := by decide +kernel
set_option maxRecDepth 65536 in
theorem w_t4 : ((((words1.drop 24).drop 24).drop 24).take 24).all (fun c => isCode c || c.before args0 about1) = true := by decide +kernel
set_option maxRecDepth 65536 in
theorem w_t5 : (((((words1.drop 24).drop 24).drop 24).drop 24).take 24).all (fun c => isCode c || c.before args0 about1) = true := by decide +kernel
set_option maxRecDepth 65536 in
theorem w_t6 : ((((((words1.drop 24).drop 24).drop 24).drop 24).drop 24).take 24).all (fun c => isCode c || c.before args0 about1) = true := by decide +kernel
set_option maxRecDepth 65536 in
theorem w_t7 : (((((((words1.drop 24).drop 24).drop 24).drop 24).drop 24).drop 24).take 24).all (fun c => isCode c || c.before args0 about1) = true := by decide +kernel
set_option maxRecDepth 65536 in
theorem w_t8 : (((((((words1.drop 24).drop 24).drop 24).drop 24).drop 24).drop 24).drop 24).all (fun c => isCode c || c.before args0 about1) = true := by decide +kernel
theorem w_tables : (allAtoms (Jvm.Cond.code x code maxLocals ret :: tables_1)).before args0 about1 = true := by
  rw [allAtoms_all]
  show words1.all (fun c => c.before args0 about1) = true
  refine all_split ?_ w_codes
  rw [← List.take_append_drop 24 words1, List.all_append, w_t1, ← List.take_append_drop 24 (words1.drop 24), List.all_append, w_t2, ← List.take_append_drop 24 ((words1.drop 24).drop 24), List.all_append, w_t3, ← List.take_append_drop 24 (((words1.drop 24).drop 24).drop 24), List.all_append, w_t4, ← List.take_append_drop 24 ((((words1.drop 24).drop 24).drop 24).drop 24), List.all_append, w_t5, ← List.take_append_drop 24 (((((words1.drop 24).drop 24).drop 24).drop 24).drop 24), List.all_append, w_t6, ← List.take_append_drop 24 ((((((words1.drop 24).drop 24).drop 24).drop 24).drop 24).drop 24), List.all_append, w_t7, w_t8]
  rfl
set_option maxRecDepth 65536 in
theorem w_rest : rest_1_c.before args0 about1 = true := by decide +kernel
set_option maxRecDepth 65536 in
theorem w_case : (Jvm.Cond.and given_1 narrow_1).before args0 about1 = true := by decide +kernel
theorem w_applies : (headSpec (Jvm.Cond.code x code maxLocals ret :: tables_1) room_1).applies x e0.platform about1 = true :=
  (Spec.applies_iff w_frames).mpr ⟨w_running, w_runnable, w_alone, w_named, w_hears, w_ripe, w_room, w_tables⟩
theorem atStart : AtStart classFile x code maxLocals ret World_1 tables_1 room_1 Calls_1 rest_1 Pre_1 launch0 p0 e0 about1 theMethod args0 below0 :=
  ⟨lists_1, trivial, launch0.admits_env _ _ _, launch0.least_env, fairChoices_fair.cas, fairChoices_fair.clock, w_frames, w_args, w_heap, w_applies, trivial, w_rest, w_case⟩
end start1
theorem witness_1 : WitnessClaimed_1 := ⟨start1.p0, start1.e0, start1.about1, start1.theMethod, start1.args0, start1.below0, start1.atStart⟩
end Jvm.Pilot.@@N@@
