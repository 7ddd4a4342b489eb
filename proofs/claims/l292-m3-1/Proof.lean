import JvmDerived
import JvmDerived.Pilot.@@N@@Statement
import JvmDerived.Pilot.@@N@@Code
set_option linter.unusedVariables false
set_option linter.unusedSimpArgs false
namespace Jvm.RoadKit
open Sem ClassFile Op Lib Jvm.Stand Jvm.Free Jvm.LawKit
section New
variable {p : Program} {l : Launch} {e : Env} {R : Room} {s : State} {m : MethodId} {args : Array Value} {below : List Frame} {meth : Method} {c : Code} {T : State} {locs : List Loc} {cells slots : Nat}
theorem retI (X : Stand p l e R s m args below meth c T locs cells slots) (hx : p.tables.exec = Jvm.exec) {pc : Nat} {Ls : Array Slot} {z : Int32} {rest : List Value} (hret : meth.sig.returnType = some .int) (hd : decode c.code pc = .ok (.ireturn, 1)) {fs : List Frame}
    (hl : ∀ (f : JFrame) (acts : List Action), f.method = m → f.locked = none → f.entered = [] → (doReturn e (T.setTop f) acts (some (.int z))).1 = T.setFrames fs) : Steps p.tables e below (T.setTop (mkF m pc Ls (.int z :: rest))) (T.setFrames fs) := by
  have hm' : T.vm.method? m = some meth := X.method'
  have hn : narrow .int (.int z) = .int z := rfl
  show Steps p.tables e below (T.setTop { method := m, pc := pc, locals := Ls, stack := _ :: rest, locked := none }) _
  jvm_step X.here [X.here.top, hx, hd, hm', hret, hn]
  first | (intro acts; rw [hl _ acts rfl rfl rfl]) | rw [hl _ _ rfl rfl rfl]
  exact Steps.refl _
end New
end Jvm.RoadKit
namespace Jvm.Pilot.@@N@@
open Jvm Jvm.ClassFile Sem Op Lib Jvm.Free Jvm.Stand Jvm.LawKit Jvm.RoadKit Bundle Jvm.Pilot.@@N@@.Jvm.D
/-- from the state T the run comes to a state of which K holds -/
def own_Go (p : Program) (e : Env) (below : List Frame) (K : State → Prop) (T : State) : Prop := ∃ t, Steps p.tables e below T t ∧ K t
theorem own_st {p : Program} {e : Env} {below : List Frame} {K : State → Prop} {T T' : State} (h : ∀ t, Steps p.tables e below T' t → Steps p.tables e below T t) (g : own_Go p e below K T') : own_Go p e below K T := by
  obtain ⟨t, a, b⟩ := g; exact ⟨t, h t a, b⟩
theorem own_tr {p : Program} {e : Env} {below : List Frame} {K : State → Prop} {T T' : State} (h : Steps p.tables e below T T') (g : own_Go p e below K T') : own_Go p e below K T := by
  obtain ⟨t, a, b⟩ := g; exact ⟨t, h.trans a, b⟩
theorem own_lrem {tb : Tables} [Ours tb] {e : Env} {below : List Frame} {T target : State} {m : MethodId} {c : Code} {g : JFrame} (h : At T m c below) (hx : tb.exec = Jvm.exec) (hg : g.method = m) {x y : Int64} {rest : List Value} (hd : decode c.code g.pc = .ok (.lrem, 1)) (hs : g.stack = .long y :: .long x :: rest) (hy : y ≠ 0)
    (hr : Steps tb e below (T.setTop { g with pc := g.pc + 1, stack := .long (x % y) :: rest }) target) : Steps tb e below (T.setTop g) target := by
  have q : x - x / y * y = x % y := lrem_mod x y
  exact XS.lrem h hx hg hd hs hy (by rw [q]; exact hr)
/-- a boolean's worth: 1 where P holds, 0 where it doesn't -/
def own_B (P : Prop) (r : Int32) : Prop := (r = 1 ∧ P) ∨ (r = 0 ∧ ¬ P)
theorem own_B.yes {P : Prop} {r : Int32} (e : r = 1) (h : P) : own_B P r := Or.inl ⟨e, h⟩
theorem own_B.no {P : Prop} {r : Int32} (e : r = 0) (h : ¬ P) : own_B P r := Or.inr ⟨e, h⟩
theorem own_B.same {P Q : Prop} {r v : Int32} (a : own_B P r) (b : own_B Q v) (h : P ↔ Q) : r = v := by
  rcases a with ⟨rfl, p⟩ | ⟨rfl, p⟩ <;> rcases b with ⟨rfl, q⟩ | ⟨rfl, q⟩
  · rfl
  · exact absurd (h.mp p) q
  · exact absurd (h.mpr q) p
  · rfl
theorem own_B.one {P : Prop} {r : Int32} (a : own_B P r) (h : P) : r = 1 := by
  rcases a with ⟨rfl, p⟩ | ⟨rfl, p⟩
  · rfl
  · exact absurd h p
theorem own_B.zero {P : Prop} {r : Int32} (a : own_B P r) (h : ¬ P) : r = 0 := by
  rcases a with ⟨rfl, p⟩ | ⟨rfl, p⟩
  · exact absurd p h
  · rfl
theorem own_B.ne0 {P : Prop} {r : Int32} (a : own_B P r) (h : P) : ¬ r = 0 := by rw [a.one h]; decide
theorem own_B.holds {P : Prop} {r : Int32} (a : own_B P r) (h : ¬ r = 0) : P := by
  rcases a with ⟨rfl, p⟩ | ⟨rfl, p⟩
  · exact p
  · exact absurd rfl h
theorem own_B.fails {P : Prop} {r : Int32} (a : own_B P r) (h : r = 0) : ¬ P := by
  rcases a with ⟨rfl, p⟩ | ⟨rfl, p⟩
  · exact absurd h (by decide)
  · exact p
theorem own_atJ (ws : List Int64) (i : Nat) : (ws.map Value.long).getD i (.long (0 : Int64)) = .long (ws.getD i 0) := by
  simp only [List.getD, List.getElem?_map]; cases ws[i]? <;> rfl
theorem own_atI (ws : List Int32) (i : Nat) : (ws.map Value.int).getD i (.int (0 : Int32)) = .int (ws.getD i 0) := by
  simp only [List.getD, List.getElem?_map]; cases ws[i]? <;> rfl
theorem own_selp {Z s : State} {a0 args : Array Value} {y : MethodName} {n : Nat} (hZ : Z.Warmed39 s.vm) (wi : (Jvm.Cond.instantiable y.cls n).before a0 Z = true) (wm : (Jvm.Cond.instanceMethod y).before a0 Z = true) (wp : (Jvm.Cond.privateMethod y).before a0 Z = true) (hy : y.cls ≠ "java/lang/invoke/MethodHandle" ∧ y.cls ≠ "java/lang/invoke/VarHandle") : (Jvm.Cond.selects y.cls y y).before args s = true := by
  have w1 : (Jvm.Cond.instantiable y.cls n).before args s = true := mvT hZ wi
  obtain ⟨c, k, h1, h2, h3, h4, -⟩ := Cond.instantiable_spec w1
  have h5 : k.isInterface = false := by cases hq : k.isInterface <;> simp [hq] at h4 ⊢
  exact selects_self_of_private h1 h2 h5 (Cond.privateMethod_at (mvP hZ wp (args := args))) (mvT hZ wm) hy
theorem own_hat {T : State} {h : Heap} {a : Addr} {c : Cell} (e : T.heap = h) (q : h[a]? = some c) : T.heap[a]? = some c := by rw [e]; exact q
theorem own_nn (x : Int32) : nar .byte (nar .byte x) = nar .byte x := by
  refine Int32.toInt_inj.mp ?_
  have a := c_i2b x
  have b := c_i2b x.toInt8.toInt32
  show x.toInt8.toInt32.toInt8.toInt32.toInt = x.toInt8.toInt32.toInt
  omega
theorem own_nb (x : Int32) : nar .byte x.toInt8.toInt32 = x.toInt8.toInt32 := own_nn x
theorem own_fit {x : Int32} (h : nar .byte x = x) : fits .byte (.int x) = true := by rw [← h]; exact fits_nar_byte x
theorem own_cl {j : Int32} {i : Nat} (h : j.toInt = (i : Int)) : j.toNatClampNeg = i := by rw [Int32.toNatClampNeg, h]; rfl
theorem own_lt {a b : Int32} (h : a.toInt < b.toInt) : a < b := Int32.lt_iff_toInt_lt.mpr h
theorem own_nlt {a b : Int32} (h : b.toInt ≤ a.toInt) : ¬ a < b := fun q => absurd (Int32.lt_iff_toInt_lt.mp q) (by omega)
theorem own_ltI {a b : Int32} (h : a < b) : a.toInt < b.toInt := Int32.lt_iff_toInt_lt.mp h
theorem own_nltI {a b : Int32} (h : ¬ a < b) : b.toInt ≤ a.toInt := by have := mt Int32.lt_iff_toInt_lt.mpr h; omega
theorem own_neI {a b : Int32} (h : ¬ a = b) : ¬ a.toInt = b.toInt := fun q => h (Int32.toInt_inj.mp q)
theorem own_ltL {a b : Int64} (h : a < b) : a.toInt < b.toInt := Int64.lt_iff_toInt_lt.mp h
theorem own_nltL {a b : Int64} (h : ¬ a < b) : b.toInt ≤ a.toInt := by have := mt Int64.lt_iff_toInt_lt.mpr h; omega
theorem own_neL {a b : Int64} (h : ¬ a = b) : ¬ a.toInt = b.toInt := fun q => h (Int64.toInt_inj.mp q)
theorem own_bit (x : Int32) : ((x &&& (1 : Int32)).toInt8.toInt32) = 0 ∨ ((x &&& (1 : Int32)).toInt8.toInt32) = 1 := by
  have e : (x &&& (1 : Int32)).toInt = x.toInt % 2 := c_mask x 1 1 (by decide) (by decide)
  have b := c_i2b (x &&& 1)
  have h : ((x &&& (1 : Int32)).toInt8.toInt32).toInt = 0 ∨ ((x &&& (1 : Int32)).toInt8.toInt32).toInt = 1 := by omega
  rcases h with q | q
  · exact Or.inl (Int32.toInt_inj.mp q)
  · exact Or.inr (Int32.toInt_inj.mp q)
theorem own_l3 {a i : Int32} (h : a &&& (3 : Int32) = i) : 0 ≤ i.toInt ∧ i.toInt ≤ 3 := by
  have e := c_mask a 3 2 (by decide) (by decide)
  rw [h] at e
  have e' : i.toInt = a.toInt % 4 := e
  omega
theorem own_msk (c : Int32) : 0 ≤ (c &&& (2147483647 : Int32)).toInt := by
  have k : (c &&& (2147483647 : Int32)).toInt = c.toInt % 2147483648 := c_mask c 2147483647 31 (by decide) (by decide)
  omega
theorem own_rem {c d j : Int32} (hd : 0 < d.toInt) (h : (c &&& (2147483647 : Int32)) % d = j) : 0 ≤ j.toInt ∧ j.toInt < d.toInt := by
  have v := (c_iremV (c &&& 2147483647) d).1 (own_msk c) hd
  rw [h] at v
  exact ⟨v.1, v.2.1⟩
theorem own_p1 {i : Int32} (h : 0 ≤ i.toInt ∧ i.toInt ≤ 100) : (i + (1 : Int32)).toInt = i.toInt + 1 := by
  have a := c_iadd i 1
  have t1 : (1 : Int32).toInt = 1 := by decide
  have r := rng32 (i + 1)
  rw [t1] at a
  omega
theorem own_nz {d : Int32} (h : 0 < d.toInt) : d ≠ 0 := fun q => by
  rw [q] at h
  exact absurd h (by decide)
theorem own_end0 (p l : Int32) : p = p + l ↔ l = 0 := by
  constructor
  · intro h
    have a := c_iadd p l
    rw [← h] at a
    have r := rng32 l
    exact Int32.toInt_inj.mp (by show l.toInt = 0; omega)
  · intro h
    rw [h]
    exact (Int32.add_zero p).symm
theorem own_endk {o p l k : Int32} (ho : 0 ≤ o.toInt ∧ o.toInt < 3) (hl : 0 ≤ l.toInt ∧ l.toInt ≤ 3) (hp : p.toInt = o.toInt + k.toInt) : p = o + l ↔ l = k := by
  have a := c_iadd o l
  have r := rng32 (o + l)
  constructor
  · intro h
    rw [← h] at a
    have r2 := rng32 k
    have r3 := rng32 l
    exact Int32.toInt_inj.mp (by omega)
  · intro h
    refine Int32.toInt_inj.mp ?_
    rw [hp, ← h]
    omega
theorem own_six {ys : List Int32} {p : Int32} (h0 : ys.getD 0 0 = 0 ∨ ys.getD 0 0 = 1) (h1 : ys.getD 1 0 = 0 ∨ ys.getD 1 0 = 1) (h2 : ys.getD 2 0 = 0 ∨ ys.getD 2 0 = 1) (h3 : ys.getD 3 0 = 0 ∨ ys.getD 3 0 = 1) (h4 : ys.getD 4 0 = 0 ∨ ys.getD 4 0 = 1) (h5 : ys.getD 5 0 = 0 ∨ ys.getD 5 0 = 1) (hp : 0 ≤ p.toInt ∧ p.toInt < 6) : ys.getD (p).toNatClampNeg 0 = 0 ∨ ys.getD (p).toNatClampNeg 0 = 1 := by
  have e : p.toNatClampNeg = p.toInt.toNat := rfl
  rw [e]
  have q : p.toInt.toNat = 0 ∨ p.toInt.toNat = 1 ∨ p.toInt.toNat = 2 ∨ p.toInt.toNat = 3 ∨ p.toInt.toNat = 4 ∨ p.toInt.toNat = 5 := by omega
  rcases q with q | q | q | q | q | q <;> rw [q] <;> assumption
theorem own_nar {x : Int32} (h : x = 0 ∨ x = 1) : nar .byte x = 0 ∨ nar .byte x = 1 := by
  rcases h with h | h <;> rw [h]
  · exact Or.inl (by decide)
  · exact Or.inr (by decide)
theorem own_G0 (o : Int32) : o.toInt = o.toInt + (0 : Int32).toInt := by
  have t : (0 : Int32).toInt = 0 := by decide
  omega
theorem own_G1 {o : Int32} (ho : 0 ≤ o.toInt ∧ o.toInt < 3) : (o + (1 : Int32)).toInt = o.toInt + (1 : Int32).toInt := by
  have t : (1 : Int32).toInt = 1 := by decide
  rw [own_p1 ⟨ho.1, by omega⟩, t]
theorem own_G2 {o : Int32} (ho : 0 ≤ o.toInt ∧ o.toInt < 3) : ((o + (1 : Int32)) + (1 : Int32)).toInt = o.toInt + (2 : Int32).toInt := by
  have t : (1 : Int32).toInt = 1 := by decide
  have t2 : (2 : Int32).toInt = 2 := by decide
  have e := own_G1 ho
  rw [own_p1 ⟨by omega, by omega⟩]
  omega
theorem own_G3 {o : Int32} (ho : 0 ≤ o.toInt ∧ o.toInt < 3) : (((o + (1 : Int32)) + (1 : Int32)) + (1 : Int32)).toInt = o.toInt + (3 : Int32).toInt := by
  have t2 : (2 : Int32).toInt = 2 := by decide
  have t3 : (3 : Int32).toInt = 3 := by decide
  have e := own_G2 ho
  rw [own_p1 ⟨by omega, by omega⟩]
  omega
theorem own_one {r : Int32} (h : r = 0 ∨ r = 1) (q : ¬ r = 0) : r = 1 := h.resolve_left q
theorem d5_0 : decode jdk_22_method_1_code 0 = .ok (.aload_n 0, 1) := by decide +kernel
theorem d5_1 : decode jdk_22_method_1_code 1 = .ok (.invokespecial 1, 3) := by decide +kernel
theorem d5_4 : decode jdk_22_method_1_code 4 = .ok (.return_, 1) := by decide +kernel
theorem pn_5 : plainName "java/util/AbstractCollection" = true := by first | (simp [plainName, overriddenIn]; done) | decide +kernel
theorem ef_5 (m : MethodId) (x0 : Addr) : entryFrame m #[(.ref x0)] 1 = mkF m 0 #[.val (.ref x0)] [] := by first | (simp [entryFrame, mkF, argsToLocals, Value.category]; done) | rfl
def Q5 (Z : State) (a1 : Addr) (h0 : Heap) (n0 : Nat) (v : Option Value) (h : Heap) (L : List Loc) : Prop := v = none ∧ Fr n0 L ∧ h = h0
set_option maxRecDepth 65536 in
set_option maxHeartbeats 40000000 in
theorem rm5 (l : Launch) (Z : State) (a0 : Array Value) (hw : ∀ d ∈ tables_1, d.before a0 Z = true) (ws : List Jvm.Cond) (a1 : Addr) (h0 : Heap) (n0 : Nat) (Z0 : n0 ≤ h0.size)  :
    MetFree l (⟨"java/util/AbstractCollection", "<init>", "()V"⟩ : MethodName) (head1 (Jvm.Cond.code (⟨"java/util/AbstractCollection", "<init>", "()V"⟩ : MethodName) jdk_22_method_1_code 1 none :: ws) ({ frames := 1, cells := 0, slots := 0, locals := 12 } : Room)) (fun a U => a = #[(.ref a1)] ∧ Z.Warmed39 U.vm ∧ U.heap = h0) (fun _ _ _ _ _ => True) (fun _ U o U' => ∃ v L, o = .returned v ∧ Q5 Z a1 h0 n0 v U'.heap L ∧ FrameEnd U o U' L ({ frames := 1, cells := 0, slots := 0, locals := 12 } : Room).cells ({ frames := 1, cells := 0, slots := 0, locals := 12 } : Room).slots) := by
  refine MetFree.of_bodySF (plainFor_of_name pn_5) hisR ?_
  intro p e s m args below meth c s₁ Bd hml0 hP hK
  obtain ⟨rfl, hZ, hh⟩ := hP
  have hx := Bd.exec
  have hby := Bd.bytes
  have hml : c.maxLocals = 1 := hml0
  have hown : s.vm.findClass "java/util/AbstractCollection" = some m.cls := findClass_of_methodNamed Bd.named
  have hnm := (name_of_methodNamed Bd.named Bd.method).1
  have X0 : Stand p l e ({ frames := 1, cells := 0, slots := 0, locals := 12 } : Room) s m #[(.ref a1)] below meth c s₁ [] 0 0 := Stand.of_body Bd
  have e0 : s₁.heap = h0 := by rw [← hh, Bd.state]; rfl
  have N0 := Fr.nil n0
  suffices G0 : ∀ K : State → Prop, (∀ (n : State) (v : Option Value) (L : List Loc), n.status = .running → Ended n below (.returned v) → Q5 Z a1 h0 n0 v n.heap L → FrameEnd s (.returned v) n L ({ frames := 1, cells := 0, slots := 0, locals := 12 } : Room).cells ({ frames := 1, cells := 0, slots := 0, locals := 12 } : Room).slots → K n) → own_Go p e below K (s₁.setTop (mkF m 0 #[.val (.ref a1)] [])) by
    obtain ⟨t, st, o, a, b, v, L, e1, q, fe⟩ := G0 (fun n => ∃ o, n.status = .running ∧ Ended n below o ∧ ∃ v L, o = .returned v ∧ Q5 Z a1 h0 n0 v n.heap L ∧ FrameEnd s o n L ({ frames := 1, cells := 0, slots := 0, locals := 12 } : Room).cells ({ frames := 1, cells := 0, slots := 0, locals := 12 } : Room).slots) (fun n v L a b q f => ⟨_, a, b, v, L, rfl, q, f⟩)
    exact ⟨t, o, castTop (ef_5 m a1) st, a, b, v, L, e1, q, fe⟩
  intro K fin
  show own_Go p e below K (s₁.setTop (mkF m 0 #[.val (.ref a1)] []))
  refine own_st (fun t k => XS.aloadN X0.here hx rfl (hb hby d5_0) rfl rfl k) ?_
  show own_Go p e below K (s₁.setTop (mkF m 1 #[.val (.ref a1)] [(.ref a1)]))
  obtain ⟨T1, X1, e1, st1⟩ := initO X0 hx hZ hown (hw _ (List.mem_of_getElem? (i := 29) rfl)) (hw _ (List.mem_of_getElem? (i := 9) rfl)) (hw _ (List.mem_of_getElem? (i := 10) rfl)) e0 (g := (mkF m 1 #[.val (.ref a1)] [(.ref a1)])) rfl (by rw [hml]; rfl) rfl (hb hby d5_1) (by decide) (W := 0) (by show 2 * 0 + _ ≤ _; exact Nat.le_of_eq rfl) (by decide)
  refine own_st st1 ?_
  show own_Go p e below K (T1.setTop (mkF m 4 #[.val (.ref a1)] []))
  obtain ⟨fs, hr, hrun, hended, hW, hsame⟩ := X1.leave (v := none) (fun _ => rfl)
  refine ⟨_, X1.returnOut hx Bd.returns (hb hby d5_4) hr, fin _ _ _ hrun hended ?_ ⟨⟨_, rfl⟩, hW, hsame.mono (by decide) (by decide)⟩⟩
  show Q5 Z a1 h0 n0 _ T1.heap _
  rw [e1]
  exact ⟨rfl, N0, rfl⟩
theorem d4_0 : decode jdk_39_method_1_code 0 = .ok (.aload_n 0, 1) := by decide +kernel
theorem d4_1 : decode jdk_39_method_1_code 1 = .ok (.invokespecial 1, 3) := by decide +kernel
theorem d4_4 : decode jdk_39_method_1_code 4 = .ok (.aload_n 0, 1) := by decide +kernel
theorem d4_5 : decode jdk_39_method_1_code 5 = .ok (.iconst 0, 1) := by decide +kernel
theorem d4_6 : decode jdk_39_method_1_code 6 = .ok (.putfield 7, 3) := by decide +kernel
theorem d4_9 : decode jdk_39_method_1_code 9 = .ok (.return_, 1) := by decide +kernel
theorem pn_4 : plainName "java/util/AbstractList" = true := by first | (simp [plainName, overriddenIn]; done) | decide +kernel
theorem pd_4_1 : parseMethodDescriptor "()V" = some ⟨[], none⟩ := by decide +kernel
theorem ef_4 (m : MethodId) (x0 : Addr) : entryFrame m #[(.ref x0)] 1 = mkF m 0 #[.val (.ref x0)] [] := by first | (simp [entryFrame, mkF, argsToLocals, Value.category]; done) | rfl
def Q4 (Z : State) (a1 : Addr) (h0 : Heap) (n0 : Nat) (v : Option Value) (h : Heap) (L : List Loc) : Prop := v = none ∧ Fr n0 L ∧ Keep h0 h [a1] ∧ (Exa Z h a1 "java/util/ArrayList") ∧ (Fld Z h a1 "java/util/ArrayList" "elementData" "[Ljava/lang/Object;" .null) ∧ (Fld Z h a1 "java/util/AbstractList" "modCount" "I" (.int (0 : Int32)))
set_option maxRecDepth 65536 in
set_option maxHeartbeats 40000000 in
theorem rm4 (l : Launch) (Z : State) (a0 : Array Value) (hw : ∀ d ∈ tables_1, d.before a0 Z = true) (ws : List Jvm.Cond) (a1 : Addr) (h0 : Heap) (n0 : Nat) (Z0 : n0 ≤ h0.size) (g_a1 : n0 ≤ a1) (P0 : Exa Z h0 a1 "java/util/ArrayList") (P1 : Fld Z h0 a1 "java/util/ArrayList" "elementData" "[Ljava/lang/Object;" .null) (P2 : Fld Z h0 a1 "java/util/AbstractList" "modCount" "I" (.int (0 : Int32))) :
    MetFree l (⟨"java/util/AbstractList", "<init>", "()V"⟩ : MethodName) (head1 (Jvm.Cond.code (⟨"java/util/AbstractList", "<init>", "()V"⟩ : MethodName) jdk_39_method_1_code 1 none :: ws) ({ frames := 2, cells := 0, slots := 0, locals := 24 } : Room)) (fun a U => a = #[(.ref a1)] ∧ Z.Warmed39 U.vm ∧ U.heap = h0) (fun _ _ _ _ _ => True) (fun _ U o U' => ∃ v L, o = .returned v ∧ Q4 Z a1 h0 n0 v U'.heap L ∧ FrameEnd U o U' L ({ frames := 2, cells := 0, slots := 0, locals := 24 } : Room).cells ({ frames := 2, cells := 0, slots := 0, locals := 24 } : Room).slots) := by
  refine MetFree.of_bodySF (plainFor_of_name pn_4) hisR ?_
  intro p e s m args below meth c s₁ Bd hml0 hP hK
  obtain ⟨rfl, hZ, hh⟩ := hP
  have hx := Bd.exec
  have hby := Bd.bytes
  have hml : c.maxLocals = 1 := hml0
  have hown : s.vm.findClass "java/util/AbstractList" = some m.cls := findClass_of_methodNamed Bd.named
  have hnm := (name_of_methodNamed Bd.named Bd.method).1
  have X0 : Stand p l e ({ frames := 2, cells := 0, slots := 0, locals := 24 } : Room) s m #[(.ref a1)] below meth c s₁ [] 0 0 := Stand.of_body Bd
  have e0 : s₁.heap = h0 := by rw [← hh, Bd.state]; rfl
  have N0 := Fr.nil n0
  suffices G0 : ∀ K : State → Prop, (∀ (n : State) (v : Option Value) (L : List Loc), n.status = .running → Ended n below (.returned v) → Q4 Z a1 h0 n0 v n.heap L → FrameEnd s (.returned v) n L ({ frames := 2, cells := 0, slots := 0, locals := 24 } : Room).cells ({ frames := 2, cells := 0, slots := 0, locals := 24 } : Room).slots → K n) → own_Go p e below K (s₁.setTop (mkF m 0 #[.val (.ref a1)] [])) by
    obtain ⟨t, st, o, a, b, v, L, e1, q, fe⟩ := G0 (fun n => ∃ o, n.status = .running ∧ Ended n below o ∧ ∃ v L, o = .returned v ∧ Q4 Z a1 h0 n0 v n.heap L ∧ FrameEnd s o n L ({ frames := 2, cells := 0, slots := 0, locals := 24 } : Room).cells ({ frames := 2, cells := 0, slots := 0, locals := 24 } : Room).slots) (fun n v L a b q f => ⟨_, a, b, v, L, rfl, q, f⟩)
    exact ⟨t, o, castTop (ef_4 m a1) st, a, b, v, L, e1, q, fe⟩
  intro K fin
  show own_Go p e below K (s₁.setTop (mkF m 0 #[.val (.ref a1)] []))
  refine own_st (fun t k => XS.aloadN X0.here hx rfl (hb hby d4_0) rfl rfl k) ?_
  show own_Go p e below K (s₁.setTop (mkF m 1 #[.val (.ref a1)] [(.ref a1)]))
  obtain ⟨_, _, ⟨T1, L1, k1, n1⟩, -, X1, ⟨Lc1, hQ1, l1, y1, z1⟩, st1⟩ := X0.specialBack hx (y := (⟨"java/util/AbstractCollection", "<init>", "()V"⟩ : MethodName)) rfl hown (mvT hZ (hw _ (List.mem_of_getElem? (i := 23) rfl))) (mvT hZ (hw _ (List.mem_of_getElem? (i := 24) rfl))) (mvT hZ (hw _ (List.mem_of_getElem? (i := 28) rfl))) (by decide) (backOf (W := 0) (rm5 l Z a0 hw [] a1 h0 n0 Z0) hZ (hw _ (List.mem_of_getElem? (i := 28) rfl)) (hw _ (List.mem_of_getElem? (i := 27) rfl)) (by decide) (by decide)) (g := (mkF m 1 #[.val (.ref a1)] [(.ref a1)])) rfl (by rw [hml]; rfl) (Steps.refl _) (a := a1) (argsL := []) (rest := []) (lenOf pd_4_1 rfl) rfl (by show 2 * 0 + _ ≤ _; exact Nat.le_of_eq rfl) (hb hby d4_1) (fun _ _ => ⟨rfl, e0, (by decide : 0 + 0 ≤ _), (by decide : 0 + 0 ≤ _)⟩)
  dsimp only [Pt.U, Pt.locs, Pt.cells, Pt.slots] at X1 l1 y1 z1 st1 hQ1
  subst l1 y1 z1
  obtain ⟨rfl, N1q, e1⟩ := hQ1
  have N1 := Fr.app N0 N1q
  refine own_tr st1 ?_
  show own_Go p e below K (T1.setTop (mkF m 4 #[.val (.ref a1)] []))
  refine own_st (fun t k => XS.aloadN X1.here hx rfl (hb hby d4_4) rfl rfl k) ?_
  show own_Go p e below K (T1.setTop (mkF m 5 #[.val (.ref a1)] [(.ref a1)]))
  refine own_st (fun t k => XS.iconst X1.here hx rfl (hb hby d4_5) k) ?_
  show own_Go p e below K (T1.setTop (mkF m 6 #[.val (.ref a1)] [(.int (0 : Int32)), (.ref a1)]))
  obtain ⟨T2, h2, X2, e2, W2, st2⟩ := putF X1 hx hZ hown (host := "") (Or.inl (hw _ (List.mem_of_getElem? (i := 30) rfl))) Via.refl e1 P2 P0 (Or.inl (hw _ (List.mem_of_getElem? (i := 31) rfl))) (hw _ (List.mem_of_getElem? (i := 12) rfl)) (ty := .int) (by decide) rfl rfl (g := (mkF m 6 #[.val (.ref a1)] [(.int (0 : Int32)), (.ref a1)])) rfl rfl (hb hby d4_6)
  have fw2 : Fld Z h2 a1 "java/util/AbstractList" "modCount" "I" (.int (0 : Int32)) := P2.same W2
  have f3 : Exa Z h2 a1 "java/util/ArrayList" := P0.wr W2
  have f4 : Fld Z h2 a1 "java/util/ArrayList" "elementData" "[Ljava/lang/Object;" .null := P1.other W2 (Or.inr (slot_ne (Or.inl (hw _ (List.mem_of_getElem? (i := 34) rfl))) (Or.inl (hw _ (List.mem_of_getElem? (i := 31) rfl))) (by decide) (t := (.array (.object "java/lang/Object"))) (t' := .int) (by decide) (by decide)))
  have N2 := Fr.snoc X2 N1 g_a1
  have Z2 : n0 ≤ h2.size := Nat.le_trans Z0 (Keep.of_wr W2).1
  have K2 : Keep h0 h2 [a1] := (Keep.refl h0 [a1]).wr W2 (Or.inl (List.mem_of_getElem? (i := 0) rfl))
  refine own_st st2 ?_
  show own_Go p e below K (T2.setTop (mkF m 9 #[.val (.ref a1)] []))
  obtain ⟨fs, hr, hrun, hended, hW, hsame⟩ := X2.leave (v := none) (fun _ => rfl)
  refine ⟨_, X2.returnOut hx Bd.returns (hb hby d4_9) hr, fin _ _ _ hrun hended ?_ ⟨⟨_, rfl⟩, hW, hsame.mono (by decide) (by decide)⟩⟩
  show Q4 Z a1 h0 n0 _ T2.heap _
  rw [e2]
  exact ⟨rfl, N2, K2, f3, f4, fw2⟩
theorem d3_0 : decode jdk_38_method_2_code 0 = .ok (.aload_n 0, 1) := by decide +kernel
theorem d3_1 : decode jdk_38_method_2_code 1 = .ok (.invokespecial 1, 3) := by decide +kernel
theorem d3_4 : decode jdk_38_method_2_code 4 = .ok (.aload_n 0, 1) := by decide +kernel
theorem d3_5 : decode jdk_38_method_2_code 5 = .ok (.getstatic 39, 3) := by decide +kernel
theorem d3_8 : decode jdk_38_method_2_code 8 = .ok (.putfield 9, 3) := by decide +kernel
theorem d3_11 : decode jdk_38_method_2_code 11 = .ok (.return_, 1) := by decide +kernel
theorem pn_3 : plainName "java/util/ArrayList" = true := by first | (simp [plainName, overriddenIn]; done) | decide +kernel
theorem pd_3_1 : parseMethodDescriptor "()V" = some ⟨[], none⟩ := by decide +kernel
theorem ef_3 (m : MethodId) (x0 : Addr) : entryFrame m #[(.ref x0)] 1 = mkF m 0 #[.val (.ref x0)] [] := by first | (simp [entryFrame, mkF, argsToLocals, Value.category]; done) | rfl
def Q3 (Z : State) (a1 : Addr) (xd : Addr) (h0 : Heap) (n0 : Nat) (v : Option Value) (h : Heap) (L : List Loc) : Prop := v = none ∧ Fr n0 L ∧ Keep h0 h [a1] ∧ (Exa Z h a1 "java/util/ArrayList") ∧ (Fld Z h a1 "java/util/ArrayList" "elementData" "[Ljava/lang/Object;" (.ref xd)) ∧ (Fld Z h a1 "java/util/AbstractList" "modCount" "I" (.int (0 : Int32)))
set_option maxRecDepth 65536 in
set_option maxHeartbeats 40000000 in
theorem rm3 (l : Launch) (Z : State) (a0 : Array Value) (hw : ∀ d ∈ tables_1, d.before a0 Z = true) (ws : List Jvm.Cond) (a1 : Addr) (xd : Addr) (h0 : Heap) (n0 : Nat) (Z0 : n0 ≤ h0.size) (g_a1 : n0 ≤ a1) (P0 : Exa Z h0 a1 "java/util/ArrayList") (P1 : Fld Z h0 a1 "java/util/ArrayList" "elementData" "[Ljava/lang/Object;" .null) (P2 : Fld Z h0 a1 "java/util/AbstractList" "modCount" "I" (.int (0 : Int32))) (P3 : Old Z n0 h0) (SD : Sta Z Z.heap "java/util/ArrayList" "DEFAULTCAPACITY_EMPTY_ELEMENTDATA" "[Ljava/lang/Object;" (.ref xd)) :
    MetFree l (⟨"java/util/ArrayList", "<init>", "()V"⟩ : MethodName) (head1 (Jvm.Cond.code (⟨"java/util/ArrayList", "<init>", "()V"⟩ : MethodName) jdk_38_method_2_code 1 none :: ws) ({ frames := 3, cells := 0, slots := 0, locals := 36 } : Room)) (fun a U => a = #[(.ref a1)] ∧ Z.Warmed39 U.vm ∧ U.heap = h0) (fun _ _ _ _ _ => True) (fun _ U o U' => ∃ v L, o = .returned v ∧ Q3 Z a1 xd h0 n0 v U'.heap L ∧ FrameEnd U o U' L ({ frames := 3, cells := 0, slots := 0, locals := 36 } : Room).cells ({ frames := 3, cells := 0, slots := 0, locals := 36 } : Room).slots) := by
  refine MetFree.of_bodySF (plainFor_of_name pn_3) hisR ?_
  intro p e s m args below meth c s₁ Bd hml0 hP hK
  obtain ⟨rfl, hZ, hh⟩ := hP
  have hx := Bd.exec
  have hby := Bd.bytes
  have hml : c.maxLocals = 1 := hml0
  have hown : s.vm.findClass "java/util/ArrayList" = some m.cls := findClass_of_methodNamed Bd.named
  have hnm := (name_of_methodNamed Bd.named Bd.method).1
  have X0 : Stand p l e ({ frames := 3, cells := 0, slots := 0, locals := 36 } : Room) s m #[(.ref a1)] below meth c s₁ [] 0 0 := Stand.of_body Bd
  have e0 : s₁.heap = h0 := by rw [← hh, Bd.state]; rfl
  have N0 := Fr.nil n0
  suffices G0 : ∀ K : State → Prop, (∀ (n : State) (v : Option Value) (L : List Loc), n.status = .running → Ended n below (.returned v) → Q3 Z a1 xd h0 n0 v n.heap L → FrameEnd s (.returned v) n L ({ frames := 3, cells := 0, slots := 0, locals := 36 } : Room).cells ({ frames := 3, cells := 0, slots := 0, locals := 36 } : Room).slots → K n) → own_Go p e below K (s₁.setTop (mkF m 0 #[.val (.ref a1)] [])) by
    obtain ⟨t, st, o, a, b, v, L, e1, q, fe⟩ := G0 (fun n => ∃ o, n.status = .running ∧ Ended n below o ∧ ∃ v L, o = .returned v ∧ Q3 Z a1 xd h0 n0 v n.heap L ∧ FrameEnd s o n L ({ frames := 3, cells := 0, slots := 0, locals := 36 } : Room).cells ({ frames := 3, cells := 0, slots := 0, locals := 36 } : Room).slots) (fun n v L a b q f => ⟨_, a, b, v, L, rfl, q, f⟩)
    exact ⟨t, o, castTop (ef_3 m a1) st, a, b, v, L, e1, q, fe⟩
  intro K fin
  show own_Go p e below K (s₁.setTop (mkF m 0 #[.val (.ref a1)] []))
  refine own_st (fun t k => XS.aloadN X0.here hx rfl (hb hby d3_0) rfl rfl k) ?_
  show own_Go p e below K (s₁.setTop (mkF m 1 #[.val (.ref a1)] [(.ref a1)]))
  obtain ⟨_, _, ⟨T1, L1, k1, n1⟩, -, X1, ⟨Lc1, hQ1, l1, y1, z1⟩, st1⟩ := X0.specialBack hx (y := (⟨"java/util/AbstractList", "<init>", "()V"⟩ : MethodName)) rfl hown (mvT hZ (hw _ (List.mem_of_getElem? (i := 17) rfl))) (mvT hZ (hw _ (List.mem_of_getElem? (i := 18) rfl))) (mvT hZ (hw _ (List.mem_of_getElem? (i := 22) rfl))) (by decide) (backOf (W := 0) (rm4 l Z a0 hw [] a1 h0 n0 Z0 g_a1 P0 P1 P2) hZ (hw _ (List.mem_of_getElem? (i := 22) rfl)) (hw _ (List.mem_of_getElem? (i := 21) rfl)) (by decide) (by decide)) (g := (mkF m 1 #[.val (.ref a1)] [(.ref a1)])) rfl (by rw [hml]; rfl) (Steps.refl _) (a := a1) (argsL := []) (rest := []) (lenOf pd_3_1 rfl) rfl (by show 2 * 0 + _ ≤ _; exact Nat.le_of_eq rfl) (hb hby d3_1) (fun _ _ => ⟨rfl, e0, (by decide : 0 + 0 ≤ _), (by decide : 0 + 0 ≤ _)⟩)
  dsimp only [Pt.U, Pt.locs, Pt.cells, Pt.slots] at X1 l1 y1 z1 st1 hQ1
  subst l1 y1 z1
  obtain ⟨rfl, N1q, Kq1, p1_0, p1_1, p1_2⟩ := hQ1
  have N1 := Fr.app N0 N1q
  have f2 : Old Z n0 T1.heap := P3.keep Kq1 (allS (P := fun x => n0 ≤ x) g_a1 all0)
  have Z1 : n0 ≤ T1.heap.size := Nat.le_trans Z0 Kq1.1
  have K1 : Keep h0 T1.heap [a1] := (Keep.refl h0 [a1]).trans Kq1 (allS (P := fun x => x ∈ [a1] ∨ h0.size ≤ x) (Or.inl (List.mem_of_getElem? (i := 0) rfl)) all0)
  refine own_tr st1 ?_
  show own_Go p e below K (T1.setTop (mkF m 4 #[.val (.ref a1)] []))
  refine own_st (fun t k => XS.aloadN X1.here hx rfl (hb hby d3_4) rfl rfl k) ?_
  show own_Go p e below K (T1.setTop (mkF m 5 #[.val (.ref a1)] [(.ref a1)]))
  obtain ⟨T3, X3, e3, st3⟩ := getS2 X1 hx hZ hown (host := "") (Or.inl (hw _ (List.mem_of_getElem? (i := 32) rfl))) Via.refl rfl (SD.ext f2.2) (g := (mkF m 5 #[.val (.ref a1)] [(.ref a1)])) rfl (hb hby d3_5)
  refine own_st st3 ?_
  show own_Go p e below K (T3.setTop (mkF m 8 #[.val (.ref a1)] [(.ref xd), (.ref a1)]))
  obtain ⟨T4, h4, X4, e4, W4, st4⟩ := putF X3 hx hZ hown (host := "") (Or.inl (hw _ (List.mem_of_getElem? (i := 33) rfl))) Via.refl e3 p1_1 p1_0 (Or.inl (hw _ (List.mem_of_getElem? (i := 34) rfl))) (hw _ (List.mem_of_getElem? (i := 12) rfl)) (ty := (.array (.object "java/lang/Object"))) (by decide) rfl rfl (g := (mkF m 8 #[.val (.ref a1)] [(.ref xd), (.ref a1)])) rfl rfl (hb hby d3_8)
  have fw4 : Fld Z h4 a1 "java/util/ArrayList" "elementData" "[Ljava/lang/Object;" (.ref xd) := p1_1.same W4
  have f5 : Old Z n0 h4 := f2.wr W4 g_a1
  have f6 : Exa Z h4 a1 "java/util/ArrayList" := p1_0.wr W4
  have f7 : Fld Z h4 a1 "java/util/AbstractList" "modCount" "I" (.int (0 : Int32)) := p1_2.other W4 (Or.inr (slot_ne (Or.inl (hw _ (List.mem_of_getElem? (i := 31) rfl))) (Or.inl (hw _ (List.mem_of_getElem? (i := 34) rfl))) (by decide) (t := .int) (t' := (.array (.object "java/lang/Object"))) (by decide) (by decide)))
  have N4 := Fr.snoc X4 N1 g_a1
  have Z4 : n0 ≤ h4.size := Nat.le_trans Z1 (Keep.of_wr W4).1
  have K4 : Keep h0 h4 [a1] := K1.wr W4 (Or.inl (List.mem_of_getElem? (i := 0) rfl))
  refine own_st st4 ?_
  show own_Go p e below K (T4.setTop (mkF m 11 #[.val (.ref a1)] []))
  obtain ⟨fs, hr, hrun, hended, hW, hsame⟩ := X4.leave (v := none) (fun _ => rfl)
  refine ⟨_, X4.returnOut hx Bd.returns (hb hby d3_11) hr, fin _ _ _ hrun hended ?_ ⟨⟨_, rfl⟩, hW, hsame.mono (by decide) (by decide)⟩⟩
  show Q3 Z a1 xd h0 n0 _ T4.heap _
  rw [e4]
  exact ⟨rfl, N4, K4, f6, fw4, f7⟩
theorem d1_0 : decode prog_37_method_1_code 0 = .ok (.aload_n 0, 1) := by decide +kernel
theorem d1_1 : decode prog_37_method_1_code 1 = .ok (.invokespecial 3, 3) := by decide +kernel
theorem d1_4 : decode prog_37_method_1_code 4 = .ok (.aload_n 0, 1) := by decide +kernel
theorem d1_5 : decode prog_37_method_1_code 5 = .ok (.new 9, 3) := by decide +kernel
theorem d1_8 : decode prog_37_method_1_code 8 = .ok (.dup, 1) := by decide +kernel
theorem d1_9 : decode prog_37_method_1_code 9 = .ok (.invokespecial 11, 3) := by decide +kernel
theorem d1_12 : decode prog_37_method_1_code 12 = .ok (.putfield 12, 3) := by decide +kernel
theorem d1_15 : decode prog_37_method_1_code 15 = .ok (.aload_n 0, 1) := by decide +kernel
theorem d1_16 : decode prog_37_method_1_code 16 = .ok (.aload_n 1, 1) := by decide +kernel
theorem d1_17 : decode prog_37_method_1_code 17 = .ok (.putfield 18, 3) := by decide +kernel
theorem d1_20 : decode prog_37_method_1_code 20 = .ok (.aload_n 0, 1) := by decide +kernel
theorem d1_21 : decode prog_37_method_1_code 21 = .ok (.iload_n 2, 1) := by decide +kernel
theorem d1_22 : decode prog_37_method_1_code 22 = .ok (.putfield 22, 3) := by decide +kernel
theorem d1_25 : decode prog_37_method_1_code 25 = .ok (.aload_n 0, 1) := by decide +kernel
theorem d1_26 : decode prog_37_method_1_code 26 = .ok (.iload_n 2, 1) := by decide +kernel
theorem d1_27 : decode prog_37_method_1_code 27 = .ok (.iload_n 3, 1) := by decide +kernel
theorem d1_28 : decode prog_37_method_1_code 28 = .ok (.iadd, 1) := by decide +kernel
theorem d1_29 : decode prog_37_method_1_code 29 = .ok (.putfield 26, 3) := by decide +kernel
theorem d1_32 : decode prog_37_method_1_code 32 = .ok (.return_, 1) := by decide +kernel
theorem pn_1 : plainName "com/example/deferline/deferline/io/KeptState$Reader" = true := by first | (simp [plainName, overriddenIn]; done) | decide +kernel
theorem pd_1_1 : parseMethodDescriptor "()V" = some ⟨[], none⟩ := by decide +kernel
theorem ef_1 (m : MethodId) (x0 : Addr) (x1 : Addr) (x2 : Int32) (x3 : Int32) : entryFrame m #[(.ref x0), (.ref x1), (.int x2), (.int x3)] 4 = mkF m 0 #[.val (.ref x0), .val (.ref x1), .val (.int x2), .val (.int x3)] [] := by first | (simp [entryFrame, mkF, argsToLocals, Value.category]; done) | rfl
def Q1 (Z : State) (a1 : Addr) (a2 : Addr) (p3 : Int32) (p4 : Int32) (xd : Addr) (h0 : Heap) (n0 : Nat) (v : Option Value) (h : Heap) (L : List Loc) : Prop := v = none ∧ Fr n0 L ∧ Keep h0 h [a1] ∧ (Exa Z h a1 "com/example/deferline/deferline/io/KeptState$Reader") ∧ (Fld Z h a1 "com/example/deferline/deferline/io/KeptState$Reader" "bytes" "[B" (.ref a2)) ∧ (Fld Z h a1 "com/example/deferline/deferline/io/KeptState$Reader" "position" "I" (.int p3)) ∧ (Fld Z h a1 "com/example/deferline/deferline/io/KeptState$Reader" "end" "I" (.int (p3 + p4)))
set_option maxRecDepth 65536 in
set_option maxHeartbeats 40000000 in
theorem rm1 (l : Launch) (Z : State) (a0 : Array Value) (hw : ∀ d ∈ tables_1, d.before a0 Z = true) (ws : List Jvm.Cond) (a1 : Addr) (a2 : Addr) (p3 : Int32) (p4 : Int32) (xd : Addr) (h0 : Heap) (n0 : Nat) (Z0 : n0 ≤ h0.size) (g_a1 : n0 ≤ a1) (P0 : Exa Z h0 a1 "com/example/deferline/deferline/io/KeptState$Reader") (P1 : Fld Z h0 a1 "com/example/deferline/deferline/io/KeptState$Reader" "bytes" "[B" .null) (P2 : Fld Z h0 a1 "com/example/deferline/deferline/io/KeptState$Reader" "position" "I" (.int (0 : Int32))) (P3 : Fld Z h0 a1 "com/example/deferline/deferline/io/KeptState$Reader" "end" "I" (.int (0 : Int32))) (P4 : Fld Z h0 a1 "com/example/deferline/deferline/io/KeptState$Reader" "kept" "Ljava/util/List;" .null) (P5 : Old Z n0 h0) (SD : Sta Z Z.heap "java/util/ArrayList" "DEFAULTCAPACITY_EMPTY_ELEMENTDATA" "[Ljava/lang/Object;" (.ref xd)) :
    MetFree l (⟨"com/example/deferline/deferline/io/KeptState$Reader", "<init>", "([BII)V"⟩ : MethodName) (head1 (Jvm.Cond.code (⟨"com/example/deferline/deferline/io/KeptState$Reader", "<init>", "([BII)V"⟩ : MethodName) prog_37_method_1_code 4 none :: ws) ({ frames := 4, cells := 1, slots := 3, locals := 50 } : Room)) (fun a U => a = #[(.ref a1), (.ref a2), (.int p3), (.int p4)] ∧ Z.Warmed39 U.vm ∧ U.heap = h0) (fun _ _ _ _ _ => True) (fun _ U o U' => ∃ v L, o = .returned v ∧ Q1 Z a1 a2 p3 p4 xd h0 n0 v U'.heap L ∧ FrameEnd U o U' L ({ frames := 4, cells := 1, slots := 3, locals := 50 } : Room).cells ({ frames := 4, cells := 1, slots := 3, locals := 50 } : Room).slots) := by
  refine MetFree.of_bodySF (plainFor_of_name pn_1) hisR ?_
  intro p e s m args below meth c s₁ Bd hml0 hP hK
  obtain ⟨rfl, hZ, hh⟩ := hP
  have hx := Bd.exec
  have hby := Bd.bytes
  have hml : c.maxLocals = 4 := hml0
  have hown : s.vm.findClass "com/example/deferline/deferline/io/KeptState$Reader" = some m.cls := findClass_of_methodNamed Bd.named
  have hnm := (name_of_methodNamed Bd.named Bd.method).1
  have X0 : Stand p l e ({ frames := 4, cells := 1, slots := 3, locals := 50 } : Room) s m #[(.ref a1), (.ref a2), (.int p3), (.int p4)] below meth c s₁ [] 0 0 := Stand.of_body Bd
  have e0 : s₁.heap = h0 := by rw [← hh, Bd.state]; rfl
  have N0 := Fr.nil n0
  suffices G0 : ∀ K : State → Prop, (∀ (n : State) (v : Option Value) (L : List Loc), n.status = .running → Ended n below (.returned v) → Q1 Z a1 a2 p3 p4 xd h0 n0 v n.heap L → FrameEnd s (.returned v) n L ({ frames := 4, cells := 1, slots := 3, locals := 50 } : Room).cells ({ frames := 4, cells := 1, slots := 3, locals := 50 } : Room).slots → K n) → own_Go p e below K (s₁.setTop (mkF m 0 #[.val (.ref a1), .val (.ref a2), .val (.int p3), .val (.int p4)] [])) by
    obtain ⟨t, st, o, a, b, v, L, e1, q, fe⟩ := G0 (fun n => ∃ o, n.status = .running ∧ Ended n below o ∧ ∃ v L, o = .returned v ∧ Q1 Z a1 a2 p3 p4 xd h0 n0 v n.heap L ∧ FrameEnd s o n L ({ frames := 4, cells := 1, slots := 3, locals := 50 } : Room).cells ({ frames := 4, cells := 1, slots := 3, locals := 50 } : Room).slots) (fun n v L a b q f => ⟨_, a, b, v, L, rfl, q, f⟩)
    exact ⟨t, o, castTop (ef_1 m a1 a2 p3 p4) st, a, b, v, L, e1, q, fe⟩
  intro K fin
  show own_Go p e below K (s₁.setTop (mkF m 0 #[.val (.ref a1), .val (.ref a2), .val (.int p3), .val (.int p4)] []))
  refine own_st (fun t k => XS.aloadN X0.here hx rfl (hb hby d1_0) rfl rfl k) ?_
  show own_Go p e below K (s₁.setTop (mkF m 1 #[.val (.ref a1), .val (.ref a2), .val (.int p3), .val (.int p4)] [(.ref a1)]))
  obtain ⟨T1, X1, e1, st1⟩ := initO X0 hx hZ hown (hw _ (List.mem_of_getElem? (i := 8) rfl)) (hw _ (List.mem_of_getElem? (i := 9) rfl)) (hw _ (List.mem_of_getElem? (i := 10) rfl)) e0 (g := (mkF m 1 #[.val (.ref a1), .val (.ref a2), .val (.int p3), .val (.int p4)] [(.ref a1)])) rfl (by rw [hml]; rfl) rfl (hb hby d1_1) (by decide) (W := 0) (by show 2 * 0 + _ ≤ _; exact Nat.le_of_eq rfl) (by decide)
  refine own_st st1 ?_
  show own_Go p e below K (T1.setTop (mkF m 4 #[.val (.ref a1), .val (.ref a2), .val (.int p3), .val (.int p4)] []))
  refine own_st (fun t k => XS.aloadN X1.here hx rfl (hb hby d1_4) rfl rfl k) ?_
  show own_Go p e below K (T1.setTop (mkF m 5 #[.val (.ref a1), .val (.ref a2), .val (.int p3), .val (.int p4)] [(.ref a1)]))
  obtain ⟨T2, h2, X2, e2, E2, A2, D2, -, st2⟩ := newO X1 hx hZ hown (hw _ (List.mem_of_getElem? (i := 11) rfl)) (hw _ (List.mem_of_getElem? (i := 12) rfl)) (hw _ (List.mem_of_getElem? (i := 13) rfl)) e1 (g := (mkF m 5 #[.val (.ref a1), .val (.ref a2), .val (.int p3), .val (.int p4)] [(.ref a1)])) rfl (hb hby d1_5) (by decide) (by decide)
  obtain ⟨b2, g2⟩ : ∃ z, z = h0.size := ⟨_, rfl⟩
  rw [← g2] at A2 D2 st2
  have ne_a1_b2 : a1 ≠ b2 := Nat.ne_of_lt (Nat.lt_of_lt_of_le P0.lt (Nat.le_of_eq g2.symm))
  have g_b2 : n0 ≤ b2 := Nat.le_trans Z0 (Nat.le_of_eq g2.symm)
  have sz_b2 : h0.size ≤ b2 := Nat.le_trans (Keep.refl h0 [a1]).1 (Nat.le_of_eq g2.symm)
  have f3 : Exa Z h2 a1 "com/example/deferline/deferline/io/KeptState$Reader" := P0.ext E2
  have f4 : Fld Z h2 a1 "com/example/deferline/deferline/io/KeptState$Reader" "bytes" "[B" .null := P1.ext E2
  have f5 : Fld Z h2 a1 "com/example/deferline/deferline/io/KeptState$Reader" "position" "I" (.int (0 : Int32)) := P2.ext E2
  have f6 : Fld Z h2 a1 "com/example/deferline/deferline/io/KeptState$Reader" "end" "I" (.int (0 : Int32)) := P3.ext E2
  have f7 : Fld Z h2 a1 "com/example/deferline/deferline/io/KeptState$Reader" "kept" "Ljava/util/List;" .null := P4.ext E2
  have f8 : Old Z n0 h2 := P5.ext E2
  have f9 : Fld Z h2 b2 "java/util/AbstractList" "modCount" "I" (.int (0 : Int32)) := D2 (Or.inl (hw _ (List.mem_of_getElem? (i := 31) rfl))) (ty := .int) (by decide)
  have f10 : Fld Z h2 b2 "java/util/ArrayList" "elementData" "[Ljava/lang/Object;" .null := D2 (Or.inl (hw _ (List.mem_of_getElem? (i := 34) rfl))) (ty := (.array (.object "java/lang/Object"))) (by decide)
  have Z2 : n0 ≤ h2.size := Nat.le_trans Z0 E2.1
  have K2 : Keep h0 h2 [a1] := (Keep.refl h0 [a1]).ext E2
  refine own_st st2 ?_
  show own_Go p e below K (T2.setTop (mkF m 8 #[.val (.ref a1), .val (.ref a2), .val (.int p3), .val (.int p4)] [(.ref b2), (.ref a1)]))
  refine own_st (fun t k => XS.dup X2.here hx rfl (hb hby d1_8) rfl rfl k) ?_
  show own_Go p e below K (T2.setTop (mkF m 9 #[.val (.ref a1), .val (.ref a2), .val (.int p3), .val (.int p4)] [(.ref b2), (.ref b2), (.ref a1)]))
  obtain ⟨_, _, ⟨T11, L11, k11, n11⟩, -, X11, ⟨Lc11, hQ11, l11, y11, z11⟩, st11⟩ := X2.specialBack hx (y := (⟨"java/util/ArrayList", "<init>", "()V"⟩ : MethodName)) rfl hown (mvT hZ (hw _ (List.mem_of_getElem? (i := 14) rfl))) (mvT hZ (hw _ (List.mem_of_getElem? (i := 15) rfl))) (mvT hZ (hw _ (List.mem_of_getElem? (i := 16) rfl))) (by decide) (backOf (W := 2) (rm3 l Z a0 hw [] b2 (xd) h2 n0 Z2 g_b2 A2 f10 f9 f8 SD) hZ (hw _ (List.mem_of_getElem? (i := 16) rfl)) (hw _ (List.mem_of_getElem? (i := 13) rfl)) (by decide) (by decide)) (g := (mkF m 9 #[.val (.ref a1), .val (.ref a2), .val (.int p3), .val (.int p4)] [(.ref b2), (.ref b2), (.ref a1)])) rfl (by rw [hml]; rfl) (Steps.refl _) (a := b2) (argsL := []) (rest := [(.ref b2), (.ref a1)]) (lenOf pd_1_1 rfl) rfl (by show 2 * 0 + _ ≤ _; exact Nat.le_of_eq rfl) (hb hby d1_9) (fun _ _ => ⟨rfl, e2, (by decide : 1 + 0 ≤ _), (by decide : 3 + 0 ≤ _)⟩)
  dsimp only [Pt.U, Pt.locs, Pt.cells, Pt.slots] at X11 l11 y11 z11 st11 hQ11
  subst l11 y11 z11
  obtain ⟨rfl, N11q, Kq11, p11_0, p11_1, p11_2⟩ := hQ11
  have N11 := Fr.app N0 N11q
  have f12 : Exa Z T11.heap a1 "com/example/deferline/deferline/io/KeptState$Reader" := f3.keep Kq11
  have f13 : Fld Z T11.heap a1 "com/example/deferline/deferline/io/KeptState$Reader" "bytes" "[B" .null := f4.keep Kq11 (ninS ne_a1_b2 nin0)
  have f14 : Fld Z T11.heap a1 "com/example/deferline/deferline/io/KeptState$Reader" "position" "I" (.int (0 : Int32)) := f5.keep Kq11 (ninS ne_a1_b2 nin0)
  have f15 : Fld Z T11.heap a1 "com/example/deferline/deferline/io/KeptState$Reader" "end" "I" (.int (0 : Int32)) := f6.keep Kq11 (ninS ne_a1_b2 nin0)
  have f16 : Fld Z T11.heap a1 "com/example/deferline/deferline/io/KeptState$Reader" "kept" "Ljava/util/List;" .null := f7.keep Kq11 (ninS ne_a1_b2 nin0)
  have f17 : Old Z n0 T11.heap := f8.keep Kq11 (allS (P := fun x => n0 ≤ x) g_b2 all0)
  have Z11 : n0 ≤ T11.heap.size := Nat.le_trans Z2 Kq11.1
  have K11 : Keep h0 T11.heap [a1] := K2.trans Kq11 (allS (P := fun x => x ∈ [a1] ∨ h0.size ≤ x) (Or.inr sz_b2) all0)
  refine own_tr st11 ?_
  show own_Go p e below K (T11.setTop (mkF m 12 #[.val (.ref a1), .val (.ref a2), .val (.int p3), .val (.int p4)] [(.ref b2), (.ref a1)]))
  obtain ⟨T18, h18, X18, e18, W18, st18⟩ := putF X11 hx hZ hown (host := "") (Or.inl (hw _ (List.mem_of_getElem? (i := 35) rfl))) Via.refl rfl f16 f12 (Or.inr ⟨(hw _ (List.mem_of_getElem? (i := 36) rfl)), rfl, hnm⟩) (hw _ (List.mem_of_getElem? (i := 3) rfl)) (ty := (.object "java/util/List")) (by decide) rfl rfl (g := (mkF m 12 #[.val (.ref a1), .val (.ref a2), .val (.int p3), .val (.int p4)] [(.ref b2), (.ref a1)])) rfl rfl (hb hby d1_12)
  have fw18 : Fld Z h18 a1 "com/example/deferline/deferline/io/KeptState$Reader" "kept" "Ljava/util/List;" (.ref b2) := f16.same W18
  have f19 : Exa Z h18 a1 "com/example/deferline/deferline/io/KeptState$Reader" := f12.wr W18
  have f20 : Fld Z h18 a1 "com/example/deferline/deferline/io/KeptState$Reader" "bytes" "[B" .null := f13.other W18 (Or.inr (slot_ne (Or.inr (hw _ (List.mem_of_getElem? (i := 38) rfl))) (Or.inr (hw _ (List.mem_of_getElem? (i := 36) rfl))) (by decide) (t := (.array .byte)) (t' := (.object "java/util/List")) (by decide) (by decide)))
  have f21 : Fld Z h18 a1 "com/example/deferline/deferline/io/KeptState$Reader" "position" "I" (.int (0 : Int32)) := f14.other W18 (Or.inr (slot_ne (Or.inl (hw _ (List.mem_of_getElem? (i := 40) rfl))) (Or.inr (hw _ (List.mem_of_getElem? (i := 36) rfl))) (by decide) (t := .int) (t' := (.object "java/util/List")) (by decide) (by decide)))
  have f22 : Fld Z h18 a1 "com/example/deferline/deferline/io/KeptState$Reader" "end" "I" (.int (0 : Int32)) := f15.other W18 (Or.inr (slot_ne (Or.inr (hw _ (List.mem_of_getElem? (i := 42) rfl))) (Or.inr (hw _ (List.mem_of_getElem? (i := 36) rfl))) (by decide) (t := .int) (t' := (.object "java/util/List")) (by decide) (by decide)))
  have f23 : Old Z n0 h18 := f17.wr W18 g_a1
  have f24 : Exa Z h18 b2 "java/util/ArrayList" := p11_0.wr W18
  have f25 : Fld Z h18 b2 "java/util/ArrayList" "elementData" "[Ljava/lang/Object;" (.ref xd) := p11_1.other W18 (Or.inl (Ne.symm ne_a1_b2))
  have f26 : Fld Z h18 b2 "java/util/AbstractList" "modCount" "I" (.int (0 : Int32)) := p11_2.other W18 (Or.inl (Ne.symm ne_a1_b2))
  have N18 := Fr.snoc X18 N11 g_a1
  have Z18 : n0 ≤ h18.size := Nat.le_trans Z11 (Keep.of_wr W18).1
  have K18 : Keep h0 h18 [a1] := K11.wr W18 (Or.inl (List.mem_of_getElem? (i := 0) rfl))
  refine own_st st18 ?_
  show own_Go p e below K (T18.setTop (mkF m 15 #[.val (.ref a1), .val (.ref a2), .val (.int p3), .val (.int p4)] []))
  refine own_st (fun t k => XS.aloadN X18.here hx rfl (hb hby d1_15) rfl rfl k) ?_
  show own_Go p e below K (T18.setTop (mkF m 16 #[.val (.ref a1), .val (.ref a2), .val (.int p3), .val (.int p4)] [(.ref a1)]))
  refine own_st (fun t k => XS.aloadN X18.here hx rfl (hb hby d1_16) rfl rfl k) ?_
  show own_Go p e below K (T18.setTop (mkF m 17 #[.val (.ref a1), .val (.ref a2), .val (.int p3), .val (.int p4)] [(.ref a2), (.ref a1)]))
  obtain ⟨T27, h27, X27, e27, W27, st27⟩ := putF X18 hx hZ hown (host := "") (Or.inl (hw _ (List.mem_of_getElem? (i := 37) rfl))) Via.refl e18 f20 f19 (Or.inr ⟨(hw _ (List.mem_of_getElem? (i := 38) rfl)), rfl, hnm⟩) (hw _ (List.mem_of_getElem? (i := 3) rfl)) (ty := (.array .byte)) (by decide) rfl rfl (g := (mkF m 17 #[.val (.ref a1), .val (.ref a2), .val (.int p3), .val (.int p4)] [(.ref a2), (.ref a1)])) rfl rfl (hb hby d1_17)
  have fw27 : Fld Z h27 a1 "com/example/deferline/deferline/io/KeptState$Reader" "bytes" "[B" (.ref a2) := f20.same W27
  have f28 : Exa Z h27 a1 "com/example/deferline/deferline/io/KeptState$Reader" := f19.wr W27
  have f29 : Fld Z h27 a1 "com/example/deferline/deferline/io/KeptState$Reader" "position" "I" (.int (0 : Int32)) := f21.other W27 (Or.inr (slot_ne (Or.inl (hw _ (List.mem_of_getElem? (i := 40) rfl))) (Or.inr (hw _ (List.mem_of_getElem? (i := 38) rfl))) (by decide) (t := .int) (t' := (.array .byte)) (by decide) (by decide)))
  have f30 : Fld Z h27 a1 "com/example/deferline/deferline/io/KeptState$Reader" "end" "I" (.int (0 : Int32)) := f22.other W27 (Or.inr (slot_ne (Or.inr (hw _ (List.mem_of_getElem? (i := 42) rfl))) (Or.inr (hw _ (List.mem_of_getElem? (i := 38) rfl))) (by decide) (t := .int) (t' := (.array .byte)) (by decide) (by decide)))
  have f31 : Fld Z h27 a1 "com/example/deferline/deferline/io/KeptState$Reader" "kept" "Ljava/util/List;" (.ref b2) := fw18.other W27 (Or.inr (slot_ne (Or.inr (hw _ (List.mem_of_getElem? (i := 36) rfl))) (Or.inr (hw _ (List.mem_of_getElem? (i := 38) rfl))) (by decide) (t := (.object "java/util/List")) (t' := (.array .byte)) (by decide) (by decide)))
  have f32 : Old Z n0 h27 := f23.wr W27 g_a1
  have f33 : Exa Z h27 b2 "java/util/ArrayList" := f24.wr W27
  have f34 : Fld Z h27 b2 "java/util/ArrayList" "elementData" "[Ljava/lang/Object;" (.ref xd) := f25.other W27 (Or.inl (Ne.symm ne_a1_b2))
  have f35 : Fld Z h27 b2 "java/util/AbstractList" "modCount" "I" (.int (0 : Int32)) := f26.other W27 (Or.inl (Ne.symm ne_a1_b2))
  have N27 := Fr.snoc X27 N18 g_a1
  have Z27 : n0 ≤ h27.size := Nat.le_trans Z18 (Keep.of_wr W27).1
  have K27 : Keep h0 h27 [a1] := K18.wr W27 (Or.inl (List.mem_of_getElem? (i := 0) rfl))
  refine own_st st27 ?_
  show own_Go p e below K (T27.setTop (mkF m 20 #[.val (.ref a1), .val (.ref a2), .val (.int p3), .val (.int p4)] []))
  refine own_st (fun t k => XS.aloadN X27.here hx rfl (hb hby d1_20) rfl rfl k) ?_
  show own_Go p e below K (T27.setTop (mkF m 21 #[.val (.ref a1), .val (.ref a2), .val (.int p3), .val (.int p4)] [(.ref a1)]))
  refine own_st (fun t k => XS.iloadN X27.here hx rfl (hb hby d1_21) rfl k) ?_
  show own_Go p e below K (T27.setTop (mkF m 22 #[.val (.ref a1), .val (.ref a2), .val (.int p3), .val (.int p4)] [(.int p3), (.ref a1)]))
  obtain ⟨T36, h36, X36, e36, W36, st36⟩ := putF X27 hx hZ hown (host := "") (Or.inl (hw _ (List.mem_of_getElem? (i := 39) rfl))) Via.refl e27 f29 f28 (Or.inl (hw _ (List.mem_of_getElem? (i := 40) rfl))) (hw _ (List.mem_of_getElem? (i := 3) rfl)) (ty := .int) (by decide) rfl rfl (g := (mkF m 22 #[.val (.ref a1), .val (.ref a2), .val (.int p3), .val (.int p4)] [(.int p3), (.ref a1)])) rfl rfl (hb hby d1_22)
  have fw36 : Fld Z h36 a1 "com/example/deferline/deferline/io/KeptState$Reader" "position" "I" (.int p3) := f29.same W36
  have f37 : Exa Z h36 a1 "com/example/deferline/deferline/io/KeptState$Reader" := f28.wr W36
  have f38 : Fld Z h36 a1 "com/example/deferline/deferline/io/KeptState$Reader" "bytes" "[B" (.ref a2) := fw27.other W36 (Or.inr (slot_ne (Or.inr (hw _ (List.mem_of_getElem? (i := 38) rfl))) (Or.inl (hw _ (List.mem_of_getElem? (i := 40) rfl))) (by decide) (t := (.array .byte)) (t' := .int) (by decide) (by decide)))
  have f39 : Fld Z h36 a1 "com/example/deferline/deferline/io/KeptState$Reader" "end" "I" (.int (0 : Int32)) := f30.other W36 (Or.inr (slot_ne (Or.inr (hw _ (List.mem_of_getElem? (i := 42) rfl))) (Or.inl (hw _ (List.mem_of_getElem? (i := 40) rfl))) (by decide) (t := .int) (t' := .int) (by decide) (by decide)))
  have f40 : Fld Z h36 a1 "com/example/deferline/deferline/io/KeptState$Reader" "kept" "Ljava/util/List;" (.ref b2) := f31.other W36 (Or.inr (slot_ne (Or.inr (hw _ (List.mem_of_getElem? (i := 36) rfl))) (Or.inl (hw _ (List.mem_of_getElem? (i := 40) rfl))) (by decide) (t := (.object "java/util/List")) (t' := .int) (by decide) (by decide)))
  have f41 : Old Z n0 h36 := f32.wr W36 g_a1
  have f42 : Exa Z h36 b2 "java/util/ArrayList" := f33.wr W36
  have f43 : Fld Z h36 b2 "java/util/ArrayList" "elementData" "[Ljava/lang/Object;" (.ref xd) := f34.other W36 (Or.inl (Ne.symm ne_a1_b2))
  have f44 : Fld Z h36 b2 "java/util/AbstractList" "modCount" "I" (.int (0 : Int32)) := f35.other W36 (Or.inl (Ne.symm ne_a1_b2))
  have N36 := Fr.snoc X36 N27 g_a1
  have Z36 : n0 ≤ h36.size := Nat.le_trans Z27 (Keep.of_wr W36).1
  have K36 : Keep h0 h36 [a1] := K27.wr W36 (Or.inl (List.mem_of_getElem? (i := 0) rfl))
  refine own_st st36 ?_
  show own_Go p e below K (T36.setTop (mkF m 25 #[.val (.ref a1), .val (.ref a2), .val (.int p3), .val (.int p4)] []))
  refine own_st (fun t k => XS.aloadN X36.here hx rfl (hb hby d1_25) rfl rfl k) ?_
  show own_Go p e below K (T36.setTop (mkF m 26 #[.val (.ref a1), .val (.ref a2), .val (.int p3), .val (.int p4)] [(.ref a1)]))
  refine own_st (fun t k => XS.iloadN X36.here hx rfl (hb hby d1_26) rfl k) ?_
  show own_Go p e below K (T36.setTop (mkF m 27 #[.val (.ref a1), .val (.ref a2), .val (.int p3), .val (.int p4)] [(.int p3), (.ref a1)]))
  refine own_st (fun t k => XS.iloadN X36.here hx rfl (hb hby d1_27) rfl k) ?_
  show own_Go p e below K (T36.setTop (mkF m 28 #[.val (.ref a1), .val (.ref a2), .val (.int p3), .val (.int p4)] [(.int p4), (.int p3), (.ref a1)]))
  refine own_st (fun t k => XS.iadd X36.here hx rfl (hb hby d1_28) rfl k) ?_
  show own_Go p e below K (T36.setTop (mkF m 29 #[.val (.ref a1), .val (.ref a2), .val (.int p3), .val (.int p4)] [(.int (p3 + p4)), (.ref a1)]))
  obtain ⟨T45, h45, X45, e45, W45, st45⟩ := putF X36 hx hZ hown (host := "") (Or.inl (hw _ (List.mem_of_getElem? (i := 41) rfl))) Via.refl e36 f39 f37 (Or.inr ⟨(hw _ (List.mem_of_getElem? (i := 42) rfl)), rfl, hnm⟩) (hw _ (List.mem_of_getElem? (i := 3) rfl)) (ty := .int) (by decide) rfl rfl (g := (mkF m 29 #[.val (.ref a1), .val (.ref a2), .val (.int p3), .val (.int p4)] [(.int (p3 + p4)), (.ref a1)])) rfl rfl (hb hby d1_29)
  have fw45 : Fld Z h45 a1 "com/example/deferline/deferline/io/KeptState$Reader" "end" "I" (.int (p3 + p4)) := f39.same W45
  have f46 : Exa Z h45 a1 "com/example/deferline/deferline/io/KeptState$Reader" := f37.wr W45
  have f47 : Fld Z h45 a1 "com/example/deferline/deferline/io/KeptState$Reader" "bytes" "[B" (.ref a2) := f38.other W45 (Or.inr (slot_ne (Or.inr (hw _ (List.mem_of_getElem? (i := 38) rfl))) (Or.inr (hw _ (List.mem_of_getElem? (i := 42) rfl))) (by decide) (t := (.array .byte)) (t' := .int) (by decide) (by decide)))
  have f48 : Fld Z h45 a1 "com/example/deferline/deferline/io/KeptState$Reader" "position" "I" (.int p3) := fw36.other W45 (Or.inr (slot_ne (Or.inl (hw _ (List.mem_of_getElem? (i := 40) rfl))) (Or.inr (hw _ (List.mem_of_getElem? (i := 42) rfl))) (by decide) (t := .int) (t' := .int) (by decide) (by decide)))
  have f49 : Fld Z h45 a1 "com/example/deferline/deferline/io/KeptState$Reader" "kept" "Ljava/util/List;" (.ref b2) := f40.other W45 (Or.inr (slot_ne (Or.inr (hw _ (List.mem_of_getElem? (i := 36) rfl))) (Or.inr (hw _ (List.mem_of_getElem? (i := 42) rfl))) (by decide) (t := (.object "java/util/List")) (t' := .int) (by decide) (by decide)))
  have f50 : Old Z n0 h45 := f41.wr W45 g_a1
  have f51 : Exa Z h45 b2 "java/util/ArrayList" := f42.wr W45
  have f52 : Fld Z h45 b2 "java/util/ArrayList" "elementData" "[Ljava/lang/Object;" (.ref xd) := f43.other W45 (Or.inl (Ne.symm ne_a1_b2))
  have f53 : Fld Z h45 b2 "java/util/AbstractList" "modCount" "I" (.int (0 : Int32)) := f44.other W45 (Or.inl (Ne.symm ne_a1_b2))
  have N45 := Fr.snoc X45 N36 g_a1
  have Z45 : n0 ≤ h45.size := Nat.le_trans Z36 (Keep.of_wr W45).1
  have K45 : Keep h0 h45 [a1] := K36.wr W45 (Or.inl (List.mem_of_getElem? (i := 0) rfl))
  refine own_st st45 ?_
  show own_Go p e below K (T45.setTop (mkF m 32 #[.val (.ref a1), .val (.ref a2), .val (.int p3), .val (.int p4)] []))
  obtain ⟨fs, hr, hrun, hended, hW, hsame⟩ := X45.leave (v := none) (fun _ => rfl)
  refine ⟨_, X45.returnOut hx Bd.returns (hb hby d1_32) hr, fin _ _ _ hrun hended ?_ ⟨⟨_, rfl⟩, hW, hsame.mono (by decide) (by decide)⟩⟩
  show Q1 Z a1 a2 p3 p4 xd h0 n0 _ T45.heap _
  rw [e45]
  exact ⟨rfl, N45, K45, f46, f47, f48, fw45⟩
theorem d6_0 : decode prog_37_method_10_code 0 = .ok (.aload_n 0, 1) := by decide +kernel
theorem d6_1 : decode prog_37_method_10_code 1 = .ok (.getfield 22, 3) := by decide +kernel
theorem d6_4 : decode prog_37_method_10_code 4 = .ok (.aload_n 0, 1) := by decide +kernel
theorem d6_5 : decode prog_37_method_10_code 5 = .ok (.getfield 26, 3) := by decide +kernel
theorem d6_8 : decode prog_37_method_10_code 8 = .ok (.if_icmp .ne 7, 3) := by decide +kernel
theorem d6_11 : decode prog_37_method_10_code 11 = .ok (.iconst 1, 1) := by decide +kernel
theorem d6_12 : decode prog_37_method_10_code 12 = .ok (.goto 4, 3) := by decide +kernel
theorem d6_15 : decode prog_37_method_10_code 15 = .ok (.iconst 0, 1) := by decide +kernel
theorem d6_16 : decode prog_37_method_10_code 16 = .ok (.ireturn, 1) := by decide +kernel
theorem pn_6 : plainName "com/example/deferline/deferline/io/KeptState$Reader" = true := by first | (simp [plainName, overriddenIn]; done) | decide +kernel
theorem ef_6 (m : MethodId) (x0 : Addr) : entryFrame m #[(.ref x0)] 1 = mkF m 0 #[.val (.ref x0)] [] := by first | (simp [entryFrame, mkF, argsToLocals, Value.category]; done) | rfl
def Q6 (Z : State) (a1 : Addr) (xp : Int32) (xe : Int32) (h0 : Heap) (n0 : Nat) (v : Option Value) (h : Heap) (L : List Loc) : Prop := ∃ (r : Int32), v = some (.int r) ∧ (own_B (xp = xe) r) ∧ Fr n0 L ∧ h = h0
set_option maxRecDepth 65536 in
set_option maxHeartbeats 40000000 in
theorem rm6 (l : Launch) (Z : State) (a0 : Array Value) (hw : ∀ d ∈ tables_1, d.before a0 Z = true) (ws : List Jvm.Cond) (a1 : Addr) (xp : Int32) (xe : Int32) (h0 : Heap) (n0 : Nat) (Z0 : n0 ≤ h0.size) (P0 : Fld Z h0 a1 "com/example/deferline/deferline/io/KeptState$Reader" "position" "I" (.int xp)) (P1 : Fld Z h0 a1 "com/example/deferline/deferline/io/KeptState$Reader" "end" "I" (.int xe)) :
    MetFree l (⟨"com/example/deferline/deferline/io/KeptState$Reader", "atEnd", "()Z"⟩ : MethodName) (head1 (Jvm.Cond.code (⟨"com/example/deferline/deferline/io/KeptState$Reader", "atEnd", "()Z"⟩ : MethodName) prog_37_method_10_code 1 (some .boolean) :: ws) ({ frames := 0, cells := 0, slots := 0, locals := 0 } : Room)) (fun a U => a = #[(.ref a1)] ∧ Z.Warmed39 U.vm ∧ U.heap = h0) (fun _ _ _ _ _ => True) (fun _ U o U' => ∃ v L, o = .returned v ∧ Q6 Z a1 xp xe h0 n0 v U'.heap L ∧ FrameEnd U o U' L ({ frames := 0, cells := 0, slots := 0, locals := 0 } : Room).cells ({ frames := 0, cells := 0, slots := 0, locals := 0 } : Room).slots) := by
  refine MetFree.of_bodySF (plainFor_of_name pn_6) hisR ?_
  intro p e s m args below meth c s₁ Bd hml0 hP hK
  obtain ⟨rfl, hZ, hh⟩ := hP
  have hx := Bd.exec
  have hby := Bd.bytes
  have hml : c.maxLocals = 1 := hml0
  have hown : s.vm.findClass "com/example/deferline/deferline/io/KeptState$Reader" = some m.cls := findClass_of_methodNamed Bd.named
  have hnm := (name_of_methodNamed Bd.named Bd.method).1
  have X0 : Stand p l e ({ frames := 0, cells := 0, slots := 0, locals := 0 } : Room) s m #[(.ref a1)] below meth c s₁ [] 0 0 := Stand.of_body Bd
  have e0 : s₁.heap = h0 := by rw [← hh, Bd.state]; rfl
  have N0 := Fr.nil n0
  suffices G0 : ∀ K : State → Prop, (∀ (n : State) (v : Option Value) (L : List Loc), n.status = .running → Ended n below (.returned v) → Q6 Z a1 xp xe h0 n0 v n.heap L → FrameEnd s (.returned v) n L ({ frames := 0, cells := 0, slots := 0, locals := 0 } : Room).cells ({ frames := 0, cells := 0, slots := 0, locals := 0 } : Room).slots → K n) → own_Go p e below K (s₁.setTop (mkF m 0 #[.val (.ref a1)] [])) by
    obtain ⟨t, st, o, a, b, v, L, e1, q, fe⟩ := G0 (fun n => ∃ o, n.status = .running ∧ Ended n below o ∧ ∃ v L, o = .returned v ∧ Q6 Z a1 xp xe h0 n0 v n.heap L ∧ FrameEnd s o n L ({ frames := 0, cells := 0, slots := 0, locals := 0 } : Room).cells ({ frames := 0, cells := 0, slots := 0, locals := 0 } : Room).slots) (fun n v L a b q f => ⟨_, a, b, v, L, rfl, q, f⟩)
    exact ⟨t, o, castTop (ef_6 m a1) st, a, b, v, L, e1, q, fe⟩
  intro K fin
  show own_Go p e below K (s₁.setTop (mkF m 0 #[.val (.ref a1)] []))
  refine own_st (fun t k => XS.aloadN X0.here hx rfl (hb hby d6_0) rfl rfl k) ?_
  show own_Go p e below K (s₁.setTop (mkF m 1 #[.val (.ref a1)] [(.ref a1)]))
  obtain ⟨T1, X1, e1, st1⟩ := getF X0 hx hZ hown (host := "") (Or.inl (hw _ (List.mem_of_getElem? (i := 39) rfl))) Via.refl e0 P0 (g := (mkF m 1 #[.val (.ref a1)] [(.ref a1)])) rfl rfl (hb hby d6_1)
  refine own_st st1 ?_
  show own_Go p e below K (T1.setTop (mkF m 4 #[.val (.ref a1)] [(.int xp)]))
  refine own_st (fun t k => XS.aloadN X1.here hx rfl (hb hby d6_4) rfl rfl k) ?_
  show own_Go p e below K (T1.setTop (mkF m 5 #[.val (.ref a1)] [(.ref a1), (.int xp)]))
  obtain ⟨T2, X2, e2, st2⟩ := getF X1 hx hZ hown (host := "") (Or.inl (hw _ (List.mem_of_getElem? (i := 41) rfl))) Via.refl e1 P1 (g := (mkF m 5 #[.val (.ref a1)] [(.ref a1), (.int xp)])) rfl rfl (hb hby d6_5)
  refine own_st st2 ?_
  show own_Go p e below K (T2.setTop (mkF m 8 #[.val (.ref a1)] [(.int xe), (.int xp)]))
  by_cases hc8 : xp = xe
  · refine own_st (fun t k => XS.icmpNo X2.here hx rfl (hb hby d6_8) rfl (teq hc8).2 k) ?_
    show own_Go p e below K (T2.setTop (mkF m 11 #[.val (.ref a1)] []))
    refine own_st (fun t k => XS.iconst X2.here hx rfl (hb hby d6_11) k) ?_
    show own_Go p e below K (T2.setTop (mkF m 12 #[.val (.ref a1)] [(.int (1 : Int32))]))
    refine own_st (fun t k => XS.goto X2.here hx rfl (pc0 := 12) (pc' := 16) rfl (hb hby d6_12) (by decide) (by decide) k) ?_
    show own_Go p e below K (T2.setTop (mkF m 16 #[.val (.ref a1)] [(.int (1 : Int32))]))
    obtain ⟨fs, hr, hrun, hended, hW, hsame⟩ := X2.leave (v := some (.int (nar .boolean (1 : Int32)))) (fun h => by rw [Bd.returns] at h; cases h)
    refine ⟨_, retN X2 hx (t := .boolean) Bd.returns (by simp) (hb hby d6_16) hr, fin _ _ _ hrun hended ?_ ⟨⟨_, rfl⟩, hW, hsame.mono (by decide) (by decide)⟩⟩
    show Q6 Z a1 xp xe h0 n0 _ T2.heap _
    rw [e2]
    exact ⟨_, rfl, (own_B.yes (by decide) hc8), N0, rfl⟩
  refine own_st (fun t k => XS.icmpYes X2.here hx rfl (pc0 := 8) (pc' := 15) rfl (hb hby d6_8) rfl (feq hc8).2 (by decide) (by decide) k) ?_
  show own_Go p e below K (T2.setTop (mkF m 15 #[.val (.ref a1)] []))
  refine own_st (fun t k => XS.iconst X2.here hx rfl (hb hby d6_15) k) ?_
  show own_Go p e below K (T2.setTop (mkF m 16 #[.val (.ref a1)] [(.int (0 : Int32))]))
  obtain ⟨fs, hr, hrun, hended, hW, hsame⟩ := X2.leave (v := some (.int (nar .boolean (0 : Int32)))) (fun h => by rw [Bd.returns] at h; cases h)
  refine ⟨_, retN X2 hx (t := .boolean) Bd.returns (by simp) (hb hby d6_16) hr, fin _ _ _ hrun hended ?_ ⟨⟨_, rfl⟩, hW, hsame.mono (by decide) (by decide)⟩⟩
  show Q6 Z a1 xp xe h0 n0 _ T2.heap _
  rw [e2]
  exact ⟨_, rfl, (own_B.no (by decide) hc8), N0, rfl⟩
theorem d8_0 : decode prog_37_method_13_code 0 = .ok (.aload_n 0, 1) := by decide +kernel
theorem d8_1 : decode prog_37_method_13_code 1 = .ok (.getfield 22, 3) := by decide +kernel
theorem d8_4 : decode prog_37_method_13_code 4 = .ok (.aload_n 0, 1) := by decide +kernel
theorem d8_5 : decode prog_37_method_13_code 5 = .ok (.getfield 26, 3) := by decide +kernel
theorem d8_8 : decode prog_37_method_13_code 8 = .ok (.if_icmp .ne 13, 3) := by decide +kernel
theorem d8_21 : decode prog_37_method_13_code 21 = .ok (.aload_n 0, 1) := by decide +kernel
theorem d8_22 : decode prog_37_method_13_code 22 = .ok (.getfield 18, 3) := by decide +kernel
theorem d8_25 : decode prog_37_method_13_code 25 = .ok (.aload_n 0, 1) := by decide +kernel
theorem d8_26 : decode prog_37_method_13_code 26 = .ok (.dup, 1) := by decide +kernel
theorem d8_27 : decode prog_37_method_13_code 27 = .ok (.getfield 22, 3) := by decide +kernel
theorem d8_30 : decode prog_37_method_13_code 30 = .ok (.dup_x1, 1) := by decide +kernel
theorem d8_31 : decode prog_37_method_13_code 31 = .ok (.iconst 1, 1) := by decide +kernel
theorem d8_32 : decode prog_37_method_13_code 32 = .ok (.iadd, 1) := by decide +kernel
theorem d8_33 : decode prog_37_method_13_code 33 = .ok (.putfield 22, 3) := by decide +kernel
theorem d8_36 : decode prog_37_method_13_code 36 = .ok (.baload, 1) := by decide +kernel
theorem d8_37 : decode prog_37_method_13_code 37 = .ok (.ireturn, 1) := by decide +kernel
theorem pn_8 : plainName "com/example/deferline/deferline/io/KeptState$Reader" = true := by first | (simp [plainName, overriddenIn]; done) | decide +kernel
theorem ef_8 (m : MethodId) (x0 : Addr) : entryFrame m #[(.ref x0)] 1 = mkF m 0 #[.val (.ref x0)] [] := by first | (simp [entryFrame, mkF, argsToLocals, Value.category]; done) | rfl
def Q8 (Z : State) (a1 : Addr) (xa : Addr) (xp : Int32) (xe : Int32) (xk : ClassId) (xn : Int32) (xs : List Int32) (h0 : Heap) (n0 : Nat) (v : Option Value) (h : Heap) (L : List Loc) : Prop := ∃ (r : Int32), v = some (.int r) ∧ (r = nar .byte (xs.getD (xp).toNatClampNeg 0)) ∧ Fr n0 L ∧ Keep h0 h [a1] ∧ (Exa Z h a1 "com/example/deferline/deferline/io/KeptState$Reader") ∧ (Fld Z h a1 "com/example/deferline/deferline/io/KeptState$Reader" "bytes" "[B" (.ref xa)) ∧ (Fld Z h a1 "com/example/deferline/deferline/io/KeptState$Reader" "position" "I" (.int (xp + (1 : Int32)))) ∧ (Fld Z h a1 "com/example/deferline/deferline/io/KeptState$Reader" "end" "I" (.int xe))
set_option maxRecDepth 65536 in
set_option maxHeartbeats 40000000 in
theorem rm8 (l : Launch) (Z : State) (a0 : Array Value) (hw : ∀ d ∈ tables_1, d.before a0 Z = true) (ws : List Jvm.Cond) (a1 : Addr) (xa : Addr) (xp : Int32) (xe : Int32) (xk : ClassId) (xn : Int32) (xs : List Int32) (h0 : Heap) (n0 : Nat) (Z0 : n0 ≤ h0.size) (g_a1 : n0 ≤ a1) (ne_a1_xa : a1 ≠ xa) (P0 : Exa Z h0 a1 "com/example/deferline/deferline/io/KeptState$Reader") (P1 : Fld Z h0 a1 "com/example/deferline/deferline/io/KeptState$Reader" "bytes" "[B" (.ref xa)) (P2 : Fld Z h0 a1 "com/example/deferline/deferline/io/KeptState$Reader" "position" "I" (.int xp)) (P3 : Fld Z h0 a1 "com/example/deferline/deferline/io/KeptState$Reader" "end" "I" (.int xe)) (P4 : Arv Z h0 xa xk .byte xn (xs.map Value.int) (.int (0 : Int32))) (hne : ¬ xp = xe) (hin : ¬ xp < 0 ∧ xp < xn) :
    MetFree l (⟨"com/example/deferline/deferline/io/KeptState$Reader", "next", "()B"⟩ : MethodName) (head1 (Jvm.Cond.code (⟨"com/example/deferline/deferline/io/KeptState$Reader", "next", "()B"⟩ : MethodName) prog_37_method_13_code 1 (some .byte) :: ws) ({ frames := 0, cells := 0, slots := 0, locals := 0 } : Room)) (fun a U => a = #[(.ref a1)] ∧ Z.Warmed39 U.vm ∧ U.heap = h0) (fun _ _ _ _ _ => True) (fun _ U o U' => ∃ v L, o = .returned v ∧ Q8 Z a1 xa xp xe xk xn xs h0 n0 v U'.heap L ∧ FrameEnd U o U' L ({ frames := 0, cells := 0, slots := 0, locals := 0 } : Room).cells ({ frames := 0, cells := 0, slots := 0, locals := 0 } : Room).slots) := by
  refine MetFree.of_bodySF (plainFor_of_name pn_8) hisR ?_
  intro p e s m args below meth c s₁ Bd hml0 hP hK
  obtain ⟨rfl, hZ, hh⟩ := hP
  have hx := Bd.exec
  have hby := Bd.bytes
  have hml : c.maxLocals = 1 := hml0
  have hown : s.vm.findClass "com/example/deferline/deferline/io/KeptState$Reader" = some m.cls := findClass_of_methodNamed Bd.named
  have hnm := (name_of_methodNamed Bd.named Bd.method).1
  have X0 : Stand p l e ({ frames := 0, cells := 0, slots := 0, locals := 0 } : Room) s m #[(.ref a1)] below meth c s₁ [] 0 0 := Stand.of_body Bd
  have e0 : s₁.heap = h0 := by rw [← hh, Bd.state]; rfl
  have N0 := Fr.nil n0
  suffices G0 : ∀ K : State → Prop, (∀ (n : State) (v : Option Value) (L : List Loc), n.status = .running → Ended n below (.returned v) → Q8 Z a1 xa xp xe xk xn xs h0 n0 v n.heap L → FrameEnd s (.returned v) n L ({ frames := 0, cells := 0, slots := 0, locals := 0 } : Room).cells ({ frames := 0, cells := 0, slots := 0, locals := 0 } : Room).slots → K n) → own_Go p e below K (s₁.setTop (mkF m 0 #[.val (.ref a1)] [])) by
    obtain ⟨t, st, o, a, b, v, L, e1, q, fe⟩ := G0 (fun n => ∃ o, n.status = .running ∧ Ended n below o ∧ ∃ v L, o = .returned v ∧ Q8 Z a1 xa xp xe xk xn xs h0 n0 v n.heap L ∧ FrameEnd s o n L ({ frames := 0, cells := 0, slots := 0, locals := 0 } : Room).cells ({ frames := 0, cells := 0, slots := 0, locals := 0 } : Room).slots) (fun n v L a b q f => ⟨_, a, b, v, L, rfl, q, f⟩)
    exact ⟨t, o, castTop (ef_8 m a1) st, a, b, v, L, e1, q, fe⟩
  intro K fin
  show own_Go p e below K (s₁.setTop (mkF m 0 #[.val (.ref a1)] []))
  refine own_st (fun t k => XS.aloadN X0.here hx rfl (hb hby d8_0) rfl rfl k) ?_
  show own_Go p e below K (s₁.setTop (mkF m 1 #[.val (.ref a1)] [(.ref a1)]))
  obtain ⟨T1, X1, e1, st1⟩ := getF X0 hx hZ hown (host := "") (Or.inl (hw _ (List.mem_of_getElem? (i := 39) rfl))) Via.refl e0 P2 (g := (mkF m 1 #[.val (.ref a1)] [(.ref a1)])) rfl rfl (hb hby d8_1)
  refine own_st st1 ?_
  show own_Go p e below K (T1.setTop (mkF m 4 #[.val (.ref a1)] [(.int xp)]))
  refine own_st (fun t k => XS.aloadN X1.here hx rfl (hb hby d8_4) rfl rfl k) ?_
  show own_Go p e below K (T1.setTop (mkF m 5 #[.val (.ref a1)] [(.ref a1), (.int xp)]))
  obtain ⟨T2, X2, e2, st2⟩ := getF X1 hx hZ hown (host := "") (Or.inl (hw _ (List.mem_of_getElem? (i := 41) rfl))) Via.refl e1 P3 (g := (mkF m 5 #[.val (.ref a1)] [(.ref a1), (.int xp)])) rfl rfl (hb hby d8_5)
  refine own_st st2 ?_
  show own_Go p e below K (T2.setTop (mkF m 8 #[.val (.ref a1)] [(.int xe), (.int xp)]))
  refine own_st (fun t k => XS.icmpYes X2.here hx rfl (pc0 := 8) (pc' := 21) rfl (hb hby d8_8) rfl (feq (hne : ¬ (xp = xe))).2 (by decide) (by decide) k) ?_
  show own_Go p e below K (T2.setTop (mkF m 21 #[.val (.ref a1)] []))
  refine own_st (fun t k => XS.aloadN X2.here hx rfl (hb hby d8_21) rfl rfl k) ?_
  show own_Go p e below K (T2.setTop (mkF m 22 #[.val (.ref a1)] [(.ref a1)]))
  obtain ⟨T3, X3, e3, st3⟩ := getF X2 hx hZ hown (host := "") (Or.inl (hw _ (List.mem_of_getElem? (i := 37) rfl))) Via.refl e2 P1 (g := (mkF m 22 #[.val (.ref a1)] [(.ref a1)])) rfl rfl (hb hby d8_22)
  refine own_st st3 ?_
  show own_Go p e below K (T3.setTop (mkF m 25 #[.val (.ref a1)] [(.ref xa)]))
  refine own_st (fun t k => XS.aloadN X3.here hx rfl (hb hby d8_25) rfl rfl k) ?_
  show own_Go p e below K (T3.setTop (mkF m 26 #[.val (.ref a1)] [(.ref a1), (.ref xa)]))
  refine own_st (fun t k => XS.dup X3.here hx rfl (hb hby d8_26) rfl rfl k) ?_
  show own_Go p e below K (T3.setTop (mkF m 27 #[.val (.ref a1)] [(.ref a1), (.ref a1), (.ref xa)]))
  obtain ⟨T4, X4, e4, st4⟩ := getF X3 hx hZ hown (host := "") (Or.inl (hw _ (List.mem_of_getElem? (i := 39) rfl))) Via.refl e3 P2 (g := (mkF m 27 #[.val (.ref a1)] [(.ref a1), (.ref a1), (.ref xa)])) rfl rfl (hb hby d8_27)
  refine own_st st4 ?_
  show own_Go p e below K (T4.setTop (mkF m 30 #[.val (.ref a1)] [(.int xp), (.ref a1), (.ref xa)]))
  refine own_st (fun t k => XS.dupX1 X4.here hx rfl (hb hby d8_30) rfl rfl rfl k) ?_
  show own_Go p e below K (T4.setTop (mkF m 31 #[.val (.ref a1)] [(.int xp), (.ref a1), (.int xp), (.ref xa)]))
  refine own_st (fun t k => XS.iconst X4.here hx rfl (hb hby d8_31) k) ?_
  show own_Go p e below K (T4.setTop (mkF m 32 #[.val (.ref a1)] [(.int (1 : Int32)), (.int xp), (.ref a1), (.int xp), (.ref xa)]))
  refine own_st (fun t k => XS.iadd X4.here hx rfl (hb hby d8_32) rfl k) ?_
  show own_Go p e below K (T4.setTop (mkF m 33 #[.val (.ref a1)] [(.int (xp + (1 : Int32))), (.ref a1), (.int xp), (.ref xa)]))
  obtain ⟨T5, h5, X5, e5, W5, st5⟩ := putF X4 hx hZ hown (host := "") (Or.inl (hw _ (List.mem_of_getElem? (i := 39) rfl))) Via.refl e4 P2 P0 (Or.inl (hw _ (List.mem_of_getElem? (i := 40) rfl))) (hw _ (List.mem_of_getElem? (i := 3) rfl)) (ty := .int) (by decide) rfl rfl (g := (mkF m 33 #[.val (.ref a1)] [(.int (xp + (1 : Int32))), (.ref a1), (.int xp), (.ref xa)])) rfl rfl (hb hby d8_33)
  have fw5 : Fld Z h5 a1 "com/example/deferline/deferline/io/KeptState$Reader" "position" "I" (.int (xp + (1 : Int32))) := P2.same W5
  have f6 : Exa Z h5 a1 "com/example/deferline/deferline/io/KeptState$Reader" := P0.wr W5
  have f7 : Fld Z h5 a1 "com/example/deferline/deferline/io/KeptState$Reader" "bytes" "[B" (.ref xa) := P1.other W5 (Or.inr (slot_ne (Or.inr (hw _ (List.mem_of_getElem? (i := 38) rfl))) (Or.inl (hw _ (List.mem_of_getElem? (i := 40) rfl))) (by decide) (t := (.array .byte)) (t' := .int) (by decide) (by decide)))
  have f8 : Fld Z h5 a1 "com/example/deferline/deferline/io/KeptState$Reader" "end" "I" (.int xe) := P3.other W5 (Or.inr (slot_ne (Or.inr (hw _ (List.mem_of_getElem? (i := 42) rfl))) (Or.inl (hw _ (List.mem_of_getElem? (i := 40) rfl))) (by decide) (t := .int) (t' := .int) (by decide) (by decide)))
  have f9 : Arv Z h5 xa xk .byte xn (xs.map Value.int) (.int (0 : Int32)) := P4.other W5 (Ne.symm ne_a1_xa)
  have N5 := Fr.snoc X5 N0 g_a1
  have Z5 : n0 ≤ h5.size := Nat.le_trans Z0 (Keep.of_wr W5).1
  have K5 : Keep h0 h5 [a1] := (Keep.refl h0 [a1]).wr W5 (Or.inl (List.mem_of_getElem? (i := 0) rfl))
  refine own_st st5 ?_
  show own_Go p e below K (T5.setTop (mkF m 36 #[.val (.ref a1)] [(.int xp), (.ref xa)]))
  obtain ⟨cl10, Ar10, qa10, Sa10, Ma10, Ha10, Ga10⟩ := id f9
  have hin10 : ¬ (xp < 0 ∨ cl10.slots.size ≤ (xp).toNatClampNeg) := inb_of Sa10 hin
  refine own_st (X5.baloadBytes hx (j := xp) (v := (.int (xs.getD (xp).toNatClampNeg 0))) (own_hat e5 Ar10.1) (State.isArrayOf_alike hZ.alike Ar10.2.1) Ar10.2.2 hin10 (Has.at Ha10 hin10 (own_atI xs _)) (g := (mkF m 36 #[.val (.ref a1)] [(.int xp), (.ref xa)])) rfl rfl (hb hby d8_36)) ?_
  show own_Go p e below K (T5.setTop (mkF m 37 #[.val (.ref a1)] [(.int (xs.getD (xp).toNatClampNeg 0))]))
  obtain ⟨fs, hr, hrun, hended, hW, hsame⟩ := X5.leave (v := some (.int (nar .byte (xs.getD (xp).toNatClampNeg 0)))) (fun h => by rw [Bd.returns] at h; cases h)
  refine ⟨_, retN X5 hx (t := .byte) Bd.returns (by simp) (hb hby d8_37) hr, fin _ _ _ hrun hended ?_ ⟨⟨_, rfl⟩, hW, hsame.mono (by decide) (by decide)⟩⟩
  show Q8 Z a1 xa xp xe xk xn xs h0 n0 _ T5.heap _
  rw [e5]
  exact ⟨_, rfl, rfl, N5, K5, f6, f7, fw5, f8⟩
theorem d7_0 : decode prog_37_method_4_code 0 = .ok (.aload_n 0, 1) := by decide +kernel
theorem d7_1 : decode prog_37_method_4_code 1 = .ok (.invokevirtual 29, 3) := by decide +kernel
theorem d7_4 : decode prog_37_method_4_code 4 = .ok (.istore_n 1, 1) := by decide +kernel
theorem d7_5 : decode prog_37_method_4_code 5 = .ok (.iload_n 1, 1) := by decide +kernel
theorem d7_6 : decode prog_37_method_4_code 6 = .ok (.ifCond .eq 22, 3) := by decide +kernel
theorem d7_9 : decode prog_37_method_4_code 9 = .ok (.iload_n 1, 1) := by decide +kernel
theorem d7_10 : decode prog_37_method_4_code 10 = .ok (.iconst 1, 1) := by decide +kernel
theorem d7_11 : decode prog_37_method_4_code 11 = .ok (.if_icmp .eq 17, 3) := by decide +kernel
theorem d7_28 : decode prog_37_method_4_code 28 = .ok (.iload_n 1, 1) := by decide +kernel
theorem d7_29 : decode prog_37_method_4_code 29 = .ok (.iconst 1, 1) := by decide +kernel
theorem d7_30 : decode prog_37_method_4_code 30 = .ok (.if_icmp .ne 7, 3) := by decide +kernel
theorem d7_33 : decode prog_37_method_4_code 33 = .ok (.iconst 1, 1) := by decide +kernel
theorem d7_34 : decode prog_37_method_4_code 34 = .ok (.goto 4, 3) := by decide +kernel
theorem d7_37 : decode prog_37_method_4_code 37 = .ok (.iconst 0, 1) := by decide +kernel
theorem d7_38 : decode prog_37_method_4_code 38 = .ok (.ireturn, 1) := by decide +kernel
theorem pn_7 : plainName "com/example/deferline/deferline/io/KeptState$Reader" = true := by first | (simp [plainName, overriddenIn]; done) | decide +kernel
theorem pd_7_3 : parseMethodDescriptor "()B" = some ⟨[], some .byte⟩ := by decide +kernel
theorem ef_7 (m : MethodId) (x0 : Addr) : entryFrame m #[(.ref x0)] 2 = mkF m 0 #[.val (.ref x0), .unset] [] := by first | (simp [entryFrame, mkF, argsToLocals, Value.category]; done) | rfl
def Q7 (Z : State) (a1 : Addr) (xa : Addr) (xp : Int32) (xe : Int32) (xk : ClassId) (xn : Int32) (xs : List Int32) (h0 : Heap) (n0 : Nat) (v : Option Value) (h : Heap) (L : List Loc) : Prop := ∃ (r : Int32), v = some (.int r) ∧ (True) ∧ Fr n0 L ∧ Keep h0 h [a1] ∧ (Exa Z h a1 "com/example/deferline/deferline/io/KeptState$Reader") ∧ (Fld Z h a1 "com/example/deferline/deferline/io/KeptState$Reader" "bytes" "[B" (.ref xa)) ∧ (Fld Z h a1 "com/example/deferline/deferline/io/KeptState$Reader" "position" "I" (.int (xp + (1 : Int32)))) ∧ (Fld Z h a1 "com/example/deferline/deferline/io/KeptState$Reader" "end" "I" (.int xe))
set_option maxRecDepth 65536 in
set_option maxHeartbeats 40000000 in
theorem rm7 (l : Launch) (Z : State) (a0 : Array Value) (hw : ∀ d ∈ tables_1, d.before a0 Z = true) (ws : List Jvm.Cond) (a1 : Addr) (xa : Addr) (xp : Int32) (xe : Int32) (xk : ClassId) (xn : Int32) (xs : List Int32) (h0 : Heap) (n0 : Nat) (Z0 : n0 ≤ h0.size) (g_a1 : n0 ≤ a1) (ne_a1_xa : a1 ≠ xa) (P0 : Exa Z h0 a1 "com/example/deferline/deferline/io/KeptState$Reader") (P1 : Fld Z h0 a1 "com/example/deferline/deferline/io/KeptState$Reader" "bytes" "[B" (.ref xa)) (P2 : Fld Z h0 a1 "com/example/deferline/deferline/io/KeptState$Reader" "position" "I" (.int xp)) (P3 : Fld Z h0 a1 "com/example/deferline/deferline/io/KeptState$Reader" "end" "I" (.int xe)) (P4 : Arv Z h0 xa xk .byte xn (xs.map Value.int) (.int (0 : Int32))) (hne : ¬ xp = xe) (hin : ¬ xp < 0 ∧ xp < xn) (h01 : xs.getD (xp).toNatClampNeg 0 = 0 ∨ xs.getD (xp).toNatClampNeg 0 = 1) :
    MetFree l (⟨"com/example/deferline/deferline/io/KeptState$Reader", "flag", "()Z"⟩ : MethodName) (head1 (Jvm.Cond.code (⟨"com/example/deferline/deferline/io/KeptState$Reader", "flag", "()Z"⟩ : MethodName) prog_37_method_4_code 2 (some .boolean) :: ws) ({ frames := 1, cells := 0, slots := 0, locals := 12 } : Room)) (fun a U => a = #[(.ref a1)] ∧ Z.Warmed39 U.vm ∧ U.heap = h0) (fun _ _ _ _ _ => True) (fun _ U o U' => ∃ v L, o = .returned v ∧ Q7 Z a1 xa xp xe xk xn xs h0 n0 v U'.heap L ∧ FrameEnd U o U' L ({ frames := 1, cells := 0, slots := 0, locals := 12 } : Room).cells ({ frames := 1, cells := 0, slots := 0, locals := 12 } : Room).slots) := by
  refine MetFree.of_bodySF (plainFor_of_name pn_7) hisR ?_
  intro p e s m args below meth c s₁ Bd hml0 hP hK
  obtain ⟨rfl, hZ, hh⟩ := hP
  have hx := Bd.exec
  have hby := Bd.bytes
  have hml : c.maxLocals = 2 := hml0
  have hown : s.vm.findClass "com/example/deferline/deferline/io/KeptState$Reader" = some m.cls := findClass_of_methodNamed Bd.named
  have hnm := (name_of_methodNamed Bd.named Bd.method).1
  have X0 : Stand p l e ({ frames := 1, cells := 0, slots := 0, locals := 12 } : Room) s m #[(.ref a1)] below meth c s₁ [] 0 0 := Stand.of_body Bd
  have e0 : s₁.heap = h0 := by rw [← hh, Bd.state]; rfl
  have N0 := Fr.nil n0
  suffices G0 : ∀ K : State → Prop, (∀ (n : State) (v : Option Value) (L : List Loc), n.status = .running → Ended n below (.returned v) → Q7 Z a1 xa xp xe xk xn xs h0 n0 v n.heap L → FrameEnd s (.returned v) n L ({ frames := 1, cells := 0, slots := 0, locals := 12 } : Room).cells ({ frames := 1, cells := 0, slots := 0, locals := 12 } : Room).slots → K n) → own_Go p e below K (s₁.setTop (mkF m 0 #[.val (.ref a1), .unset] [])) by
    obtain ⟨t, st, o, a, b, v, L, e1, q, fe⟩ := G0 (fun n => ∃ o, n.status = .running ∧ Ended n below o ∧ ∃ v L, o = .returned v ∧ Q7 Z a1 xa xp xe xk xn xs h0 n0 v n.heap L ∧ FrameEnd s o n L ({ frames := 1, cells := 0, slots := 0, locals := 12 } : Room).cells ({ frames := 1, cells := 0, slots := 0, locals := 12 } : Room).slots) (fun n v L a b q f => ⟨_, a, b, v, L, rfl, q, f⟩)
    exact ⟨t, o, castTop (ef_7 m a1) st, a, b, v, L, e1, q, fe⟩
  intro K fin
  show own_Go p e below K (s₁.setTop (mkF m 0 #[.val (.ref a1), .unset] []))
  refine own_st (fun t k => XS.aloadN X0.here hx rfl (hb hby d7_0) rfl rfl k) ?_
  show own_Go p e below K (s₁.setTop (mkF m 1 #[.val (.ref a1), .unset] [(.ref a1)]))
  obtain ⟨cq1, qv1, qv1'⟩ := P0.cell
  obtain ⟨_, _, ⟨T1, L1, k1, n1⟩, -, X1, ⟨Lc1, hQ1, l1, y1, z1⟩, st1⟩ := X0.privateBack hx (y := (⟨"com/example/deferline/deferline/io/KeptState$Reader", "next", "()B"⟩ : MethodName)) hown (mvT hZ (hw _ (List.mem_of_getElem? (i := 53) rfl))) (mvT hZ (hw _ (List.mem_of_getElem? (i := 54) rfl))) (own_selp hZ (hw _ (List.mem_of_getElem? (i := 3) rfl)) (hw _ (List.mem_of_getElem? (i := 54) rfl)) (hw _ (List.mem_of_getElem? (i := 55) rfl)) (by decide)) (Cond.privateMethod_at (mvP hZ (hw _ (List.mem_of_getElem? (i := 55) rfl)) (args := #[]))) (mvT hZ (hw _ (List.mem_of_getElem? (i := 56) rfl))) (by decide) (backOf (W := 0) (rm8 l Z a0 hw [] a1 (xa) (xp) (xe) (xk) (xn) (xs) h0 n0 Z0 g_a1 ne_a1_xa P0 P1 P2 P3 P4 hne hin) hZ (hw _ (List.mem_of_getElem? (i := 56) rfl)) (hw _ (List.mem_of_getElem? (i := 4) rfl)) (by decide) (by decide)) (g := (mkF m 1 #[.val (.ref a1), .unset] [(.ref a1)])) rfl (by rw [hml]; rfl) (Steps.refl _) (a := a1) (own_hat e0 qv1) qv1' (argsL := []) (rest := []) (lenOf pd_7_3 rfl) rfl (by show 2 * 0 + _ ≤ _; exact Nat.le_of_eq rfl) (hb hby d7_1) (fun _ _ => ⟨rfl, e0, (by decide : 0 + 0 ≤ _), (by decide : 0 + 0 ≤ _)⟩)
  dsimp only [Pt.U, Pt.locs, Pt.cells, Pt.slots] at X1 l1 y1 z1 st1 hQ1
  subst l1 y1 z1
  obtain ⟨r1, rfl, hr1, N1q, Kq1, p1_0, p1_1, p1_2, p1_3⟩ := hQ1
  have N1 := Fr.app N0 N1q
  have f2 : Arv Z T1.heap xa xk .byte xn (xs.map Value.int) (.int (0 : Int32)) := P4.keep Kq1 (ninS (Ne.symm ne_a1_xa) nin0)
  have Z1 : n0 ≤ T1.heap.size := Nat.le_trans Z0 Kq1.1
  have K1 : Keep h0 T1.heap [a1] := (Keep.refl h0 [a1]).trans Kq1 (allS (P := fun x => x ∈ [a1] ∨ h0.size ≤ x) (Or.inl (List.mem_of_getElem? (i := 0) rfl)) all0)
  refine own_tr st1 ?_
  show own_Go p e below K (T1.setTop (mkF m 4 #[.val (.ref a1), .unset] [(.int r1)]))
  refine own_st (fun t k => XS.istoreN X1.here hx rfl (hb hby d7_4) rfl (l' := #[.val (.ref a1), .val (.int r1)]) rfl k) ?_
  show own_Go p e below K (T1.setTop (mkF m 5 #[.val (.ref a1), .val (.int r1)] []))
  refine own_st (fun t k => XS.iloadN X1.here hx rfl (hb hby d7_5) rfl k) ?_
  show own_Go p e below K (T1.setTop (mkF m 6 #[.val (.ref a1), .val (.int r1)] [(.int r1)]))
  by_cases hc6 : r1 = (0 : Int32)
  · refine own_st (fun t k => XS.ifYes X1.here hx rfl (pc0 := 6) (pc' := 28) rfl (hb hby d7_6) rfl ((if0 _ _).trans (teq hc6).1) (by decide) (by decide) k) ?_
    show own_Go p e below K (T1.setTop (mkF m 28 #[.val (.ref a1), .val (.int r1)] []))
    refine own_st (fun t k => XS.iloadN X1.here hx rfl (hb hby d7_28) rfl k) ?_
    show own_Go p e below K (T1.setTop (mkF m 29 #[.val (.ref a1), .val (.int r1)] [(.int r1)]))
    refine own_st (fun t k => XS.iconst X1.here hx rfl (hb hby d7_29) k) ?_
    show own_Go p e below K (T1.setTop (mkF m 30 #[.val (.ref a1), .val (.int r1)] [(.int (1 : Int32)), (.int r1)]))
    by_cases hc30 : r1 = (1 : Int32)
    · refine own_st (fun t k => XS.icmpNo X1.here hx rfl (hb hby d7_30) rfl (teq hc30).2 k) ?_
      show own_Go p e below K (T1.setTop (mkF m 33 #[.val (.ref a1), .val (.int r1)] []))
      refine own_st (fun t k => XS.iconst X1.here hx rfl (hb hby d7_33) k) ?_
      show own_Go p e below K (T1.setTop (mkF m 34 #[.val (.ref a1), .val (.int r1)] [(.int (1 : Int32))]))
      refine own_st (fun t k => XS.goto X1.here hx rfl (pc0 := 34) (pc' := 38) rfl (hb hby d7_34) (by decide) (by decide) k) ?_
      show own_Go p e below K (T1.setTop (mkF m 38 #[.val (.ref a1), .val (.int r1)] [(.int (1 : Int32))]))
      obtain ⟨fs, hr, hrun, hended, hW, hsame⟩ := X1.leave (v := some (.int (nar .boolean (1 : Int32)))) (fun h => by rw [Bd.returns] at h; cases h)
      refine ⟨_, retN X1 hx (t := .boolean) Bd.returns (by simp) (hb hby d7_38) hr, fin _ _ _ hrun hended ?_ ⟨⟨_, rfl⟩, hW, hsame.mono (by decide) (by decide)⟩⟩
      show Q7 Z a1 xa xp xe xk xn xs h0 n0 _ T1.heap _
      exact ⟨_, rfl, trivial, N1, K1, p1_0, p1_1, p1_2, p1_3⟩
    refine own_st (fun t k => XS.icmpYes X1.here hx rfl (pc0 := 30) (pc' := 37) rfl (hb hby d7_30) rfl (feq hc30).2 (by decide) (by decide) k) ?_
    show own_Go p e below K (T1.setTop (mkF m 37 #[.val (.ref a1), .val (.int r1)] []))
    refine own_st (fun t k => XS.iconst X1.here hx rfl (hb hby d7_37) k) ?_
    show own_Go p e below K (T1.setTop (mkF m 38 #[.val (.ref a1), .val (.int r1)] [(.int (0 : Int32))]))
    obtain ⟨fs, hr, hrun, hended, hW, hsame⟩ := X1.leave (v := some (.int (nar .boolean (0 : Int32)))) (fun h => by rw [Bd.returns] at h; cases h)
    refine ⟨_, retN X1 hx (t := .boolean) Bd.returns (by simp) (hb hby d7_38) hr, fin _ _ _ hrun hended ?_ ⟨⟨_, rfl⟩, hW, hsame.mono (by decide) (by decide)⟩⟩
    show Q7 Z a1 xa xp xe xk xn xs h0 n0 _ T1.heap _
    exact ⟨_, rfl, trivial, N1, K1, p1_0, p1_1, p1_2, p1_3⟩
  refine own_st (fun t k => XS.ifNo X1.here hx rfl (hb hby d7_6) rfl ((if0 _ _).trans (feq hc6).1) k) ?_
  show own_Go p e below K (T1.setTop (mkF m 9 #[.val (.ref a1), .val (.int r1)] []))
  refine own_st (fun t k => XS.iloadN X1.here hx rfl (hb hby d7_9) rfl k) ?_
  show own_Go p e below K (T1.setTop (mkF m 10 #[.val (.ref a1), .val (.int r1)] [(.int r1)]))
  refine own_st (fun t k => XS.iconst X1.here hx rfl (hb hby d7_10) k) ?_
  show own_Go p e below K (T1.setTop (mkF m 11 #[.val (.ref a1), .val (.int r1)] [(.int (1 : Int32)), (.int r1)]))
  refine own_st (fun t k => XS.icmpYes X1.here hx rfl (pc0 := 11) (pc' := 28) rfl (hb hby d7_11) rfl (teq (own_one (by rw [hr1]; exact own_nar h01) hc6 : r1 = (1 : Int32))).1 (by decide) (by decide) k) ?_
  show own_Go p e below K (T1.setTop (mkF m 28 #[.val (.ref a1), .val (.int r1)] []))
  refine own_st (fun t k => XS.iloadN X1.here hx rfl (hb hby d7_28) rfl k) ?_
  show own_Go p e below K (T1.setTop (mkF m 29 #[.val (.ref a1), .val (.int r1)] [(.int r1)]))
  refine own_st (fun t k => XS.iconst X1.here hx rfl (hb hby d7_29) k) ?_
  show own_Go p e below K (T1.setTop (mkF m 30 #[.val (.ref a1), .val (.int r1)] [(.int (1 : Int32)), (.int r1)]))
  by_cases hc30 : r1 = (1 : Int32)
  · refine own_st (fun t k => XS.icmpNo X1.here hx rfl (hb hby d7_30) rfl (teq hc30).2 k) ?_
    show own_Go p e below K (T1.setTop (mkF m 33 #[.val (.ref a1), .val (.int r1)] []))
    refine own_st (fun t k => XS.iconst X1.here hx rfl (hb hby d7_33) k) ?_
    show own_Go p e below K (T1.setTop (mkF m 34 #[.val (.ref a1), .val (.int r1)] [(.int (1 : Int32))]))
    refine own_st (fun t k => XS.goto X1.here hx rfl (pc0 := 34) (pc' := 38) rfl (hb hby d7_34) (by decide) (by decide) k) ?_
    show own_Go p e below K (T1.setTop (mkF m 38 #[.val (.ref a1), .val (.int r1)] [(.int (1 : Int32))]))
    obtain ⟨fs, hr, hrun, hended, hW, hsame⟩ := X1.leave (v := some (.int (nar .boolean (1 : Int32)))) (fun h => by rw [Bd.returns] at h; cases h)
    refine ⟨_, retN X1 hx (t := .boolean) Bd.returns (by simp) (hb hby d7_38) hr, fin _ _ _ hrun hended ?_ ⟨⟨_, rfl⟩, hW, hsame.mono (by decide) (by decide)⟩⟩
    show Q7 Z a1 xa xp xe xk xn xs h0 n0 _ T1.heap _
    exact ⟨_, rfl, trivial, N1, K1, p1_0, p1_1, p1_2, p1_3⟩
  refine own_st (fun t k => XS.icmpYes X1.here hx rfl (pc0 := 30) (pc' := 37) rfl (hb hby d7_30) rfl (feq hc30).2 (by decide) (by decide) k) ?_
  show own_Go p e below K (T1.setTop (mkF m 37 #[.val (.ref a1), .val (.int r1)] []))
  refine own_st (fun t k => XS.iconst X1.here hx rfl (hb hby d7_37) k) ?_
  show own_Go p e below K (T1.setTop (mkF m 38 #[.val (.ref a1), .val (.int r1)] [(.int (0 : Int32))]))
  obtain ⟨fs, hr, hrun, hended, hW, hsame⟩ := X1.leave (v := some (.int (nar .boolean (0 : Int32)))) (fun h => by rw [Bd.returns] at h; cases h)
  refine ⟨_, retN X1 hx (t := .boolean) Bd.returns (by simp) (hb hby d7_38) hr, fin _ _ _ hrun hended ?_ ⟨⟨_, rfl⟩, hW, hsame.mono (by decide) (by decide)⟩⟩
  show Q7 Z a1 xa xp xe xk xn xs h0 n0 _ T1.heap _
  exact ⟨_, rfl, trivial, N1, K1, p1_0, p1_1, p1_2, p1_3⟩
theorem pn_0 : plainName "com/example/deferline/deferline/io/ReaderAtEndPinLaw" = true := by first | (simp [plainName, overriddenIn]; done) | decide +kernel
theorem pd_0_0 : parseMethodDescriptor "([BII)V" = some ⟨[(.array .byte), .int, .int], none⟩ := by decide +kernel
theorem pd_0_2 : parseMethodDescriptor "()Z" = some ⟨[], some .boolean⟩ := by decide +kernel
theorem ef_0 (m : MethodId) (x0 : Int32) (x1 : Int32) (x2 : Int32) (x3 : Int32) (x4 : Int32) : entryFrame m #[(.int x0), (.int x1), (.int x2), (.int x3), (.int x4)] maxLocals = mkF m 0 #[.val (.int x0), .val (.int x1), .val (.int x2), .val (.int x3), .val (.int x4), .unset, .unset, .unset, .unset, .unset, .unset, .unset] [] := by first | (simp [entryFrame, mkF, argsToLocals, Value.category, maxLocals]; done) | rfl
def Q0 (Z : State) (p1 : Int32) (p2 : Int32) (p3 : Int32) (p4 : Int32) (p5 : Int32) (xd : Addr) (h0 : Heap) (n0 : Nat) (v : Option Value) (h : Heap) (L : List Loc) : Prop := v = some (.int 1) ∧ Fr n0 L
set_option maxRecDepth 65536 in
set_option maxHeartbeats 40000000 in
theorem rm0 (l : Launch) (Z : State) (a0 : Array Value) (hw : ∀ d ∈ tables_1, d.before a0 Z = true) (ws : List Jvm.Cond) (p1 : Int32) (p2 : Int32) (p3 : Int32) (p4 : Int32) (p5 : Int32) (xd : Addr) (h0 : Heap) (n0 : Nat) (Z0 : n0 ≤ h0.size) (P0 : Old Z n0 h0) (SD : Sta Z Z.heap "java/util/ArrayList" "DEFAULTCAPACITY_EMPTY_ELEMENTDATA" "[Ljava/lang/Object;" (.ref xd)) :
    MetFree l x (head1 (Jvm.Cond.code x code maxLocals ret :: ws) room_1) (fun a U => a = #[(.int p1), (.int p2), (.int p3), (.int p4), (.int p5)] ∧ Z.Warmed39 U.vm ∧ U.heap = h0) (fun _ _ _ _ _ => True) (fun _ U o U' => ∃ v L, o = .returned v ∧ Q0 Z p1 p2 p3 p4 p5 xd h0 n0 v U'.heap L ∧ FrameEnd U o U' L 3 13) := by
  refine MetFree.of_bodySF (plainFor_of_name pn_0) hisR ?_
  intro p e s m args below meth c s₁ Bd hml0 hP hK
  obtain ⟨rfl, hZ, hh⟩ := hP
  have hx := Bd.exec
  have hby := Bd.bytes
  have hml : c.maxLocals = 12 := hml0
  have hown : s.vm.findClass "com/example/deferline/deferline/io/ReaderAtEndPinLaw" = some m.cls := findClass_of_methodNamed Bd.named
  have hnm := (name_of_methodNamed Bd.named Bd.method).1
  have X0 : Stand p l e room_1 s m #[(.int p1), (.int p2), (.int p3), (.int p4), (.int p5)] below meth c s₁ [] 0 0 := Stand.of_body Bd
  have e0 : s₁.heap = h0 := by rw [← hh, Bd.state]; rfl
  have N0 := Fr.nil n0
  suffices G0 : ∀ K : State → Prop, (∀ (n : State) (v : Option Value) (L : List Loc), n.status = .running → Ended n below (.returned v) → Q0 Z p1 p2 p3 p4 p5 xd h0 n0 v n.heap L → FrameEnd s (.returned v) n L 3 13 → K n) → own_Go p e below K (s₁.setTop (mkF m 0 #[.val (.int p1), .val (.int p2), .val (.int p3), .val (.int p4), .val (.int p5), .unset, .unset, .unset, .unset, .unset, .unset, .unset] [])) by
    obtain ⟨t, st, o, a, b, v, L, e1, q, fe⟩ := G0 (fun n => ∃ o, n.status = .running ∧ Ended n below o ∧ ∃ v L, o = .returned v ∧ Q0 Z p1 p2 p3 p4 p5 xd h0 n0 v n.heap L ∧ FrameEnd s o n L 3 13) (fun n v L a b q f => ⟨_, a, b, v, L, rfl, q, f⟩)
    exact ⟨t, o, castTop (ef_0 m p1 p2 p3 p4 p5) st, a, b, v, L, e1, q, fe⟩
  intro K fin
  show own_Go p e below K (s₁.setTop (mkF m 0 #[.val (.int p1), .val (.int p2), .val (.int p3), .val (.int p4), .val (.int p5), .unset, .unset, .unset, .unset, .unset, .unset, .unset] []))
  refine own_st (fun t k => XS.bipush X0.here hx rfl (hb hby at_0) k) ?_
  show own_Go p e below K (s₁.setTop (mkF m 2 #[.val (.int p1), .val (.int p2), .val (.int p3), .val (.int p4), .val (.int p5), .unset, .unset, .unset, .unset, .unset, .unset, .unset] [(.int (6 : Int32))]))
  obtain ⟨T1, h1, k1, X1, e1, E1, A1, st1⟩ := newP X0 hx hZ (hw _ (List.mem_of_getElem? (i := 0) rfl)) e0 (g := (mkF m 2 #[.val (.int p1), .val (.int p2), .val (.int p3), .val (.int p4), .val (.int p5), .unset, .unset, .unset, .unset, .unset, .unset, .unset] [(.int (6 : Int32))])) rfl (hb hby at_2) rfl (by decide) (cap := 6) (by decide) (by decide) (by decide) (by decide)
  obtain ⟨b1, g1⟩ : ∃ z, z = h0.size := ⟨_, rfl⟩
  rw [← g1] at A1 st1
  have g_b1 : n0 ≤ b1 := Nat.le_trans Z0 (Nat.le_of_eq g1.symm)
  have f2 : Old Z n0 h1 := P0.ext E1
  have V1 : Arv Z h1 b1 k1 .byte (6 : Int32) [(.int (0 : Int32)), (.int (0 : Int32)), (.int (0 : Int32)), (.int (0 : Int32)), (.int (0 : Int32)), (.int (0 : Int32))] (.int (0 : Int32)) := (Arv.new A1 (by decide)).pad (pad_rep [] (.int (0 : Int32)) 6)
  have Z1 : n0 ≤ h1.size := Nat.le_trans Z0 E1.1
  refine own_st st1 ?_
  show own_Go p e below K (T1.setTop (mkF m 4 #[.val (.int p1), .val (.int p2), .val (.int p3), .val (.int p4), .val (.int p5), .unset, .unset, .unset, .unset, .unset, .unset, .unset] [(.ref b1)]))
  refine own_st (fun t k => XS.astore X1.here hx rfl (hb hby at_4) rfl rfl (l' := #[.val (.int p1), .val (.int p2), .val (.int p3), .val (.int p4), .val (.int p5), .val (.ref b1), .unset, .unset, .unset, .unset, .unset, .unset]) rfl k) ?_
  show own_Go p e below K (T1.setTop (mkF m 6 #[.val (.int p1), .val (.int p2), .val (.int p3), .val (.int p4), .val (.int p5), .val (.ref b1), .unset, .unset, .unset, .unset, .unset, .unset] []))
  refine own_st (fun t k => XS.aload X1.here hx rfl (hb hby at_6) rfl rfl k) ?_
  show own_Go p e below K (T1.setTop (mkF m 8 #[.val (.int p1), .val (.int p2), .val (.int p3), .val (.int p4), .val (.int p5), .val (.ref b1), .unset, .unset, .unset, .unset, .unset, .unset] [(.ref b1)]))
  refine own_st (fun t k => XS.iconst X1.here hx rfl (hb hby at_8) k) ?_
  show own_Go p e below K (T1.setTop (mkF m 9 #[.val (.int p1), .val (.int p2), .val (.int p3), .val (.int p4), .val (.int p5), .val (.ref b1), .unset, .unset, .unset, .unset, .unset, .unset] [(.int (0 : Int32)), (.ref b1)]))
  refine own_st (fun t k => XS.iloadN X1.here hx rfl (hb hby at_9) rfl k) ?_
  show own_Go p e below K (T1.setTop (mkF m 10 #[.val (.int p1), .val (.int p2), .val (.int p3), .val (.int p4), .val (.int p5), .val (.ref b1), .unset, .unset, .unset, .unset, .unset, .unset] [(.int p1), (.int (0 : Int32)), (.ref b1)]))
  refine own_st (fun t k => XS.iconst X1.here hx rfl (hb hby at_10) k) ?_
  show own_Go p e below K (T1.setTop (mkF m 11 #[.val (.int p1), .val (.int p2), .val (.int p3), .val (.int p4), .val (.int p5), .val (.ref b1), .unset, .unset, .unset, .unset, .unset, .unset] [(.int (1 : Int32)), (.int p1), (.int (0 : Int32)), (.ref b1)]))
  refine own_st (fun t k => XS.iand X1.here hx rfl (hb hby at_11) rfl k) ?_
  show own_Go p e below K (T1.setTop (mkF m 12 #[.val (.int p1), .val (.int p2), .val (.int p3), .val (.int p4), .val (.int p5), .val (.ref b1), .unset, .unset, .unset, .unset, .unset, .unset] [(.int (p1 &&& (1 : Int32))), (.int (0 : Int32)), (.ref b1)]))
  refine own_st (fun t k => XS.i2b X1.here hx rfl (hb hby at_12) rfl k) ?_
  show own_Go p e below K (T1.setTop (mkF m 13 #[.val (.int p1), .val (.int p2), .val (.int p3), .val (.int p4), .val (.int p5), .val (.ref b1), .unset, .unset, .unset, .unset, .unset, .unset] [(.int ((p1 &&& (1 : Int32)).toInt8.toInt32)), (.int (0 : Int32)), (.ref b1)]))
  obtain ⟨cl3, Ar3, qa3, Sa3, Ma3, Ha3, Ga3⟩ := id V1
  have hin3 : ¬ ((0 : Int32) < 0 ∨ cl3.slots.size ≤ ((0 : Int32)).toNatClampNeg) := inb_of Sa3 ⟨by decide, by decide⟩
  obtain ⟨T4, h4, X4, e4, W4, st4⟩ := stB X1 hx hZ e1 Ar3 (j := (0 : Int32)) hin3 (g := (mkF m 13 #[.val (.int p1), .val (.int p2), .val (.int p3), .val (.int p4), .val (.int p5), .val (.ref b1), .unset, .unset, .unset, .unset, .unset, .unset] [(.int ((p1 &&& (1 : Int32)).toInt8.toInt32)), (.int (0 : Int32)), (.ref b1)])) rfl rfl (hb hby at_13)
  have id4 : nar .byte ((p1 &&& (1 : Int32)).toInt8.toInt32) = ((p1 &&& (1 : Int32)).toInt8.toInt32) := (own_nb _)
  rw [id4] at W4
  have V4 : Arv Z h4 b1 k1 .byte (6 : Int32) [(.int ((p1 &&& (1 : Int32)).toInt8.toInt32)), (.int (0 : Int32)), (.int (0 : Int32)), (.int (0 : Int32)), (.int (0 : Int32)), (.int (0 : Int32))] (.int (0 : Int32)) := Arv.set Ar3 qa3 Sa3 Ma3 Ha3 Ga3 (own_fit id4) W4 0 rfl (Nat.le_of_ble_eq_true rfl)
  have f5 : Old Z n0 h4 := f2.wr W4 g_b1
  have N4 := Fr.snoc X4 N0 g_b1
  have Z4 : n0 ≤ h4.size := Nat.le_trans Z1 (Keep.of_wr W4).1
  refine own_st st4 ?_
  show own_Go p e below K (T4.setTop (mkF m 14 #[.val (.int p1), .val (.int p2), .val (.int p3), .val (.int p4), .val (.int p5), .val (.ref b1), .unset, .unset, .unset, .unset, .unset, .unset] []))
  refine own_st (fun t k => XS.aload X4.here hx rfl (hb hby at_14) rfl rfl k) ?_
  show own_Go p e below K (T4.setTop (mkF m 16 #[.val (.int p1), .val (.int p2), .val (.int p3), .val (.int p4), .val (.int p5), .val (.ref b1), .unset, .unset, .unset, .unset, .unset, .unset] [(.ref b1)]))
  refine own_st (fun t k => XS.iconst X4.here hx rfl (hb hby at_16) k) ?_
  show own_Go p e below K (T4.setTop (mkF m 17 #[.val (.int p1), .val (.int p2), .val (.int p3), .val (.int p4), .val (.int p5), .val (.ref b1), .unset, .unset, .unset, .unset, .unset, .unset] [(.int (1 : Int32)), (.ref b1)]))
  refine own_st (fun t k => XS.iloadN X4.here hx rfl (hb hby at_17) rfl k) ?_
  show own_Go p e below K (T4.setTop (mkF m 18 #[.val (.int p1), .val (.int p2), .val (.int p3), .val (.int p4), .val (.int p5), .val (.ref b1), .unset, .unset, .unset, .unset, .unset, .unset] [(.int p1), (.int (1 : Int32)), (.ref b1)]))
  refine own_st (fun t k => XS.iconst X4.here hx rfl (hb hby at_18) k) ?_
  show own_Go p e below K (T4.setTop (mkF m 19 #[.val (.int p1), .val (.int p2), .val (.int p3), .val (.int p4), .val (.int p5), .val (.ref b1), .unset, .unset, .unset, .unset, .unset, .unset] [(.int (1 : Int32)), (.int p1), (.int (1 : Int32)), (.ref b1)]))
  refine own_st (fun t k => XS.iushr X4.here hx rfl (hb hby at_19) rfl k) ?_
  show own_Go p e below K (T4.setTop (mkF m 20 #[.val (.int p1), .val (.int p2), .val (.int p3), .val (.int p4), .val (.int p5), .val (.ref b1), .unset, .unset, .unset, .unset, .unset, .unset] [(.int ((p1.toUInt32 >>> ((1 : Int32) &&& 31).toUInt32).toInt32)), (.int (1 : Int32)), (.ref b1)]))
  refine own_st (fun t k => XS.iconst X4.here hx rfl (hb hby at_20) k) ?_
  show own_Go p e below K (T4.setTop (mkF m 21 #[.val (.int p1), .val (.int p2), .val (.int p3), .val (.int p4), .val (.int p5), .val (.ref b1), .unset, .unset, .unset, .unset, .unset, .unset] [(.int (1 : Int32)), (.int ((p1.toUInt32 >>> ((1 : Int32) &&& 31).toUInt32).toInt32)), (.int (1 : Int32)), (.ref b1)]))
  refine own_st (fun t k => XS.iand X4.here hx rfl (hb hby at_21) rfl k) ?_
  show own_Go p e below K (T4.setTop (mkF m 22 #[.val (.int p1), .val (.int p2), .val (.int p3), .val (.int p4), .val (.int p5), .val (.ref b1), .unset, .unset, .unset, .unset, .unset, .unset] [(.int (((p1.toUInt32 >>> ((1 : Int32) &&& 31).toUInt32).toInt32) &&& (1 : Int32))), (.int (1 : Int32)), (.ref b1)]))
  refine own_st (fun t k => XS.i2b X4.here hx rfl (hb hby at_22) rfl k) ?_
  show own_Go p e below K (T4.setTop (mkF m 23 #[.val (.int p1), .val (.int p2), .val (.int p3), .val (.int p4), .val (.int p5), .val (.ref b1), .unset, .unset, .unset, .unset, .unset, .unset] [(.int ((((p1.toUInt32 >>> ((1 : Int32) &&& 31).toUInt32).toInt32) &&& (1 : Int32)).toInt8.toInt32)), (.int (1 : Int32)), (.ref b1)]))
  obtain ⟨cl6, Ar6, qa6, Sa6, Ma6, Ha6, Ga6⟩ := id V4
  have hin6 : ¬ ((1 : Int32) < 0 ∨ cl6.slots.size ≤ ((1 : Int32)).toNatClampNeg) := inb_of Sa6 ⟨by decide, by decide⟩
  obtain ⟨T7, h7, X7, e7, W7, st7⟩ := stB X4 hx hZ e4 Ar6 (j := (1 : Int32)) hin6 (g := (mkF m 23 #[.val (.int p1), .val (.int p2), .val (.int p3), .val (.int p4), .val (.int p5), .val (.ref b1), .unset, .unset, .unset, .unset, .unset, .unset] [(.int ((((p1.toUInt32 >>> ((1 : Int32) &&& 31).toUInt32).toInt32) &&& (1 : Int32)).toInt8.toInt32)), (.int (1 : Int32)), (.ref b1)])) rfl rfl (hb hby at_23)
  have id7 : nar .byte ((((p1.toUInt32 >>> ((1 : Int32) &&& 31).toUInt32).toInt32) &&& (1 : Int32)).toInt8.toInt32) = ((((p1.toUInt32 >>> ((1 : Int32) &&& 31).toUInt32).toInt32) &&& (1 : Int32)).toInt8.toInt32) := (own_nb _)
  rw [id7] at W7
  have V7 : Arv Z h7 b1 k1 .byte (6 : Int32) [(.int ((p1 &&& (1 : Int32)).toInt8.toInt32)), (.int ((((p1.toUInt32 >>> ((1 : Int32) &&& 31).toUInt32).toInt32) &&& (1 : Int32)).toInt8.toInt32)), (.int (0 : Int32)), (.int (0 : Int32)), (.int (0 : Int32)), (.int (0 : Int32))] (.int (0 : Int32)) := Arv.set Ar6 qa6 Sa6 Ma6 Ha6 Ga6 (own_fit id7) W7 1 rfl (Nat.le_of_ble_eq_true rfl)
  have f8 : Old Z n0 h7 := f5.wr W7 g_b1
  have N7 := Fr.snoc X7 N4 g_b1
  have Z7 : n0 ≤ h7.size := Nat.le_trans Z4 (Keep.of_wr W7).1
  refine own_st st7 ?_
  show own_Go p e below K (T7.setTop (mkF m 24 #[.val (.int p1), .val (.int p2), .val (.int p3), .val (.int p4), .val (.int p5), .val (.ref b1), .unset, .unset, .unset, .unset, .unset, .unset] []))
  refine own_st (fun t k => XS.aload X7.here hx rfl (hb hby at_24) rfl rfl k) ?_
  show own_Go p e below K (T7.setTop (mkF m 26 #[.val (.int p1), .val (.int p2), .val (.int p3), .val (.int p4), .val (.int p5), .val (.ref b1), .unset, .unset, .unset, .unset, .unset, .unset] [(.ref b1)]))
  refine own_st (fun t k => XS.iconst X7.here hx rfl (hb hby at_26) k) ?_
  show own_Go p e below K (T7.setTop (mkF m 27 #[.val (.int p1), .val (.int p2), .val (.int p3), .val (.int p4), .val (.int p5), .val (.ref b1), .unset, .unset, .unset, .unset, .unset, .unset] [(.int (2 : Int32)), (.ref b1)]))
  refine own_st (fun t k => XS.iloadN X7.here hx rfl (hb hby at_27) rfl k) ?_
  show own_Go p e below K (T7.setTop (mkF m 28 #[.val (.int p1), .val (.int p2), .val (.int p3), .val (.int p4), .val (.int p5), .val (.ref b1), .unset, .unset, .unset, .unset, .unset, .unset] [(.int p1), (.int (2 : Int32)), (.ref b1)]))
  refine own_st (fun t k => XS.iconst X7.here hx rfl (hb hby at_28) k) ?_
  show own_Go p e below K (T7.setTop (mkF m 29 #[.val (.int p1), .val (.int p2), .val (.int p3), .val (.int p4), .val (.int p5), .val (.ref b1), .unset, .unset, .unset, .unset, .unset, .unset] [(.int (2 : Int32)), (.int p1), (.int (2 : Int32)), (.ref b1)]))
  refine own_st (fun t k => XS.iushr X7.here hx rfl (hb hby at_29) rfl k) ?_
  show own_Go p e below K (T7.setTop (mkF m 30 #[.val (.int p1), .val (.int p2), .val (.int p3), .val (.int p4), .val (.int p5), .val (.ref b1), .unset, .unset, .unset, .unset, .unset, .unset] [(.int ((p1.toUInt32 >>> ((2 : Int32) &&& 31).toUInt32).toInt32)), (.int (2 : Int32)), (.ref b1)]))
  refine own_st (fun t k => XS.iconst X7.here hx rfl (hb hby at_30) k) ?_
  show own_Go p e below K (T7.setTop (mkF m 31 #[.val (.int p1), .val (.int p2), .val (.int p3), .val (.int p4), .val (.int p5), .val (.ref b1), .unset, .unset, .unset, .unset, .unset, .unset] [(.int (1 : Int32)), (.int ((p1.toUInt32 >>> ((2 : Int32) &&& 31).toUInt32).toInt32)), (.int (2 : Int32)), (.ref b1)]))
  refine own_st (fun t k => XS.iand X7.here hx rfl (hb hby at_31) rfl k) ?_
  show own_Go p e below K (T7.setTop (mkF m 32 #[.val (.int p1), .val (.int p2), .val (.int p3), .val (.int p4), .val (.int p5), .val (.ref b1), .unset, .unset, .unset, .unset, .unset, .unset] [(.int (((p1.toUInt32 >>> ((2 : Int32) &&& 31).toUInt32).toInt32) &&& (1 : Int32))), (.int (2 : Int32)), (.ref b1)]))
  refine own_st (fun t k => XS.i2b X7.here hx rfl (hb hby at_32) rfl k) ?_
  show own_Go p e below K (T7.setTop (mkF m 33 #[.val (.int p1), .val (.int p2), .val (.int p3), .val (.int p4), .val (.int p5), .val (.ref b1), .unset, .unset, .unset, .unset, .unset, .unset] [(.int ((((p1.toUInt32 >>> ((2 : Int32) &&& 31).toUInt32).toInt32) &&& (1 : Int32)).toInt8.toInt32)), (.int (2 : Int32)), (.ref b1)]))
  obtain ⟨cl9, Ar9, qa9, Sa9, Ma9, Ha9, Ga9⟩ := id V7
  have hin9 : ¬ ((2 : Int32) < 0 ∨ cl9.slots.size ≤ ((2 : Int32)).toNatClampNeg) := inb_of Sa9 ⟨by decide, by decide⟩
  obtain ⟨T10, h10, X10, e10, W10, st10⟩ := stB X7 hx hZ e7 Ar9 (j := (2 : Int32)) hin9 (g := (mkF m 33 #[.val (.int p1), .val (.int p2), .val (.int p3), .val (.int p4), .val (.int p5), .val (.ref b1), .unset, .unset, .unset, .unset, .unset, .unset] [(.int ((((p1.toUInt32 >>> ((2 : Int32) &&& 31).toUInt32).toInt32) &&& (1 : Int32)).toInt8.toInt32)), (.int (2 : Int32)), (.ref b1)])) rfl rfl (hb hby at_33)
  have id10 : nar .byte ((((p1.toUInt32 >>> ((2 : Int32) &&& 31).toUInt32).toInt32) &&& (1 : Int32)).toInt8.toInt32) = ((((p1.toUInt32 >>> ((2 : Int32) &&& 31).toUInt32).toInt32) &&& (1 : Int32)).toInt8.toInt32) := (own_nb _)
  rw [id10] at W10
  have V10 : Arv Z h10 b1 k1 .byte (6 : Int32) [(.int ((p1 &&& (1 : Int32)).toInt8.toInt32)), (.int ((((p1.toUInt32 >>> ((1 : Int32) &&& 31).toUInt32).toInt32) &&& (1 : Int32)).toInt8.toInt32)), (.int ((((p1.toUInt32 >>> ((2 : Int32) &&& 31).toUInt32).toInt32) &&& (1 : Int32)).toInt8.toInt32)), (.int (0 : Int32)), (.int (0 : Int32)), (.int (0 : Int32))] (.int (0 : Int32)) := Arv.set Ar9 qa9 Sa9 Ma9 Ha9 Ga9 (own_fit id10) W10 2 rfl (Nat.le_of_ble_eq_true rfl)
  have f11 : Old Z n0 h10 := f8.wr W10 g_b1
  have N10 := Fr.snoc X10 N7 g_b1
  have Z10 : n0 ≤ h10.size := Nat.le_trans Z7 (Keep.of_wr W10).1
  refine own_st st10 ?_
  show own_Go p e below K (T10.setTop (mkF m 34 #[.val (.int p1), .val (.int p2), .val (.int p3), .val (.int p4), .val (.int p5), .val (.ref b1), .unset, .unset, .unset, .unset, .unset, .unset] []))
  refine own_st (fun t k => XS.aload X10.here hx rfl (hb hby at_34) rfl rfl k) ?_
  show own_Go p e below K (T10.setTop (mkF m 36 #[.val (.int p1), .val (.int p2), .val (.int p3), .val (.int p4), .val (.int p5), .val (.ref b1), .unset, .unset, .unset, .unset, .unset, .unset] [(.ref b1)]))
  refine own_st (fun t k => XS.iconst X10.here hx rfl (hb hby at_36) k) ?_
  show own_Go p e below K (T10.setTop (mkF m 37 #[.val (.int p1), .val (.int p2), .val (.int p3), .val (.int p4), .val (.int p5), .val (.ref b1), .unset, .unset, .unset, .unset, .unset, .unset] [(.int (3 : Int32)), (.ref b1)]))
  refine own_st (fun t k => XS.iloadN X10.here hx rfl (hb hby at_37) rfl k) ?_
  show own_Go p e below K (T10.setTop (mkF m 38 #[.val (.int p1), .val (.int p2), .val (.int p3), .val (.int p4), .val (.int p5), .val (.ref b1), .unset, .unset, .unset, .unset, .unset, .unset] [(.int p1), (.int (3 : Int32)), (.ref b1)]))
  refine own_st (fun t k => XS.iconst X10.here hx rfl (hb hby at_38) k) ?_
  show own_Go p e below K (T10.setTop (mkF m 39 #[.val (.int p1), .val (.int p2), .val (.int p3), .val (.int p4), .val (.int p5), .val (.ref b1), .unset, .unset, .unset, .unset, .unset, .unset] [(.int (3 : Int32)), (.int p1), (.int (3 : Int32)), (.ref b1)]))
  refine own_st (fun t k => XS.iushr X10.here hx rfl (hb hby at_39) rfl k) ?_
  show own_Go p e below K (T10.setTop (mkF m 40 #[.val (.int p1), .val (.int p2), .val (.int p3), .val (.int p4), .val (.int p5), .val (.ref b1), .unset, .unset, .unset, .unset, .unset, .unset] [(.int ((p1.toUInt32 >>> ((3 : Int32) &&& 31).toUInt32).toInt32)), (.int (3 : Int32)), (.ref b1)]))
  refine own_st (fun t k => XS.iconst X10.here hx rfl (hb hby at_40) k) ?_
  show own_Go p e below K (T10.setTop (mkF m 41 #[.val (.int p1), .val (.int p2), .val (.int p3), .val (.int p4), .val (.int p5), .val (.ref b1), .unset, .unset, .unset, .unset, .unset, .unset] [(.int (1 : Int32)), (.int ((p1.toUInt32 >>> ((3 : Int32) &&& 31).toUInt32).toInt32)), (.int (3 : Int32)), (.ref b1)]))
  refine own_st (fun t k => XS.iand X10.here hx rfl (hb hby at_41) rfl k) ?_
  show own_Go p e below K (T10.setTop (mkF m 42 #[.val (.int p1), .val (.int p2), .val (.int p3), .val (.int p4), .val (.int p5), .val (.ref b1), .unset, .unset, .unset, .unset, .unset, .unset] [(.int (((p1.toUInt32 >>> ((3 : Int32) &&& 31).toUInt32).toInt32) &&& (1 : Int32))), (.int (3 : Int32)), (.ref b1)]))
  refine own_st (fun t k => XS.i2b X10.here hx rfl (hb hby at_42) rfl k) ?_
  show own_Go p e below K (T10.setTop (mkF m 43 #[.val (.int p1), .val (.int p2), .val (.int p3), .val (.int p4), .val (.int p5), .val (.ref b1), .unset, .unset, .unset, .unset, .unset, .unset] [(.int ((((p1.toUInt32 >>> ((3 : Int32) &&& 31).toUInt32).toInt32) &&& (1 : Int32)).toInt8.toInt32)), (.int (3 : Int32)), (.ref b1)]))
  obtain ⟨cl12, Ar12, qa12, Sa12, Ma12, Ha12, Ga12⟩ := id V10
  have hin12 : ¬ ((3 : Int32) < 0 ∨ cl12.slots.size ≤ ((3 : Int32)).toNatClampNeg) := inb_of Sa12 ⟨by decide, by decide⟩
  obtain ⟨T13, h13, X13, e13, W13, st13⟩ := stB X10 hx hZ e10 Ar12 (j := (3 : Int32)) hin12 (g := (mkF m 43 #[.val (.int p1), .val (.int p2), .val (.int p3), .val (.int p4), .val (.int p5), .val (.ref b1), .unset, .unset, .unset, .unset, .unset, .unset] [(.int ((((p1.toUInt32 >>> ((3 : Int32) &&& 31).toUInt32).toInt32) &&& (1 : Int32)).toInt8.toInt32)), (.int (3 : Int32)), (.ref b1)])) rfl rfl (hb hby at_43)
  have id13 : nar .byte ((((p1.toUInt32 >>> ((3 : Int32) &&& 31).toUInt32).toInt32) &&& (1 : Int32)).toInt8.toInt32) = ((((p1.toUInt32 >>> ((3 : Int32) &&& 31).toUInt32).toInt32) &&& (1 : Int32)).toInt8.toInt32) := (own_nb _)
  rw [id13] at W13
  have V13 : Arv Z h13 b1 k1 .byte (6 : Int32) [(.int ((p1 &&& (1 : Int32)).toInt8.toInt32)), (.int ((((p1.toUInt32 >>> ((1 : Int32) &&& 31).toUInt32).toInt32) &&& (1 : Int32)).toInt8.toInt32)), (.int ((((p1.toUInt32 >>> ((2 : Int32) &&& 31).toUInt32).toInt32) &&& (1 : Int32)).toInt8.toInt32)), (.int ((((p1.toUInt32 >>> ((3 : Int32) &&& 31).toUInt32).toInt32) &&& (1 : Int32)).toInt8.toInt32)), (.int (0 : Int32)), (.int (0 : Int32))] (.int (0 : Int32)) := Arv.set Ar12 qa12 Sa12 Ma12 Ha12 Ga12 (own_fit id13) W13 3 rfl (Nat.le_of_ble_eq_true rfl)
  have f14 : Old Z n0 h13 := f11.wr W13 g_b1
  have N13 := Fr.snoc X13 N10 g_b1
  have Z13 : n0 ≤ h13.size := Nat.le_trans Z10 (Keep.of_wr W13).1
  refine own_st st13 ?_
  show own_Go p e below K (T13.setTop (mkF m 44 #[.val (.int p1), .val (.int p2), .val (.int p3), .val (.int p4), .val (.int p5), .val (.ref b1), .unset, .unset, .unset, .unset, .unset, .unset] []))
  refine own_st (fun t k => XS.aload X13.here hx rfl (hb hby at_44) rfl rfl k) ?_
  show own_Go p e below K (T13.setTop (mkF m 46 #[.val (.int p1), .val (.int p2), .val (.int p3), .val (.int p4), .val (.int p5), .val (.ref b1), .unset, .unset, .unset, .unset, .unset, .unset] [(.ref b1)]))
  refine own_st (fun t k => XS.iconst X13.here hx rfl (hb hby at_46) k) ?_
  show own_Go p e below K (T13.setTop (mkF m 47 #[.val (.int p1), .val (.int p2), .val (.int p3), .val (.int p4), .val (.int p5), .val (.ref b1), .unset, .unset, .unset, .unset, .unset, .unset] [(.int (4 : Int32)), (.ref b1)]))
  refine own_st (fun t k => XS.iloadN X13.here hx rfl (hb hby at_47) rfl k) ?_
  show own_Go p e below K (T13.setTop (mkF m 48 #[.val (.int p1), .val (.int p2), .val (.int p3), .val (.int p4), .val (.int p5), .val (.ref b1), .unset, .unset, .unset, .unset, .unset, .unset] [(.int p1), (.int (4 : Int32)), (.ref b1)]))
  refine own_st (fun t k => XS.iconst X13.here hx rfl (hb hby at_48) k) ?_
  show own_Go p e below K (T13.setTop (mkF m 49 #[.val (.int p1), .val (.int p2), .val (.int p3), .val (.int p4), .val (.int p5), .val (.ref b1), .unset, .unset, .unset, .unset, .unset, .unset] [(.int (4 : Int32)), (.int p1), (.int (4 : Int32)), (.ref b1)]))
  refine own_st (fun t k => XS.iushr X13.here hx rfl (hb hby at_49) rfl k) ?_
  show own_Go p e below K (T13.setTop (mkF m 50 #[.val (.int p1), .val (.int p2), .val (.int p3), .val (.int p4), .val (.int p5), .val (.ref b1), .unset, .unset, .unset, .unset, .unset, .unset] [(.int ((p1.toUInt32 >>> ((4 : Int32) &&& 31).toUInt32).toInt32)), (.int (4 : Int32)), (.ref b1)]))
  refine own_st (fun t k => XS.iconst X13.here hx rfl (hb hby at_50) k) ?_
  show own_Go p e below K (T13.setTop (mkF m 51 #[.val (.int p1), .val (.int p2), .val (.int p3), .val (.int p4), .val (.int p5), .val (.ref b1), .unset, .unset, .unset, .unset, .unset, .unset] [(.int (1 : Int32)), (.int ((p1.toUInt32 >>> ((4 : Int32) &&& 31).toUInt32).toInt32)), (.int (4 : Int32)), (.ref b1)]))
  refine own_st (fun t k => XS.iand X13.here hx rfl (hb hby at_51) rfl k) ?_
  show own_Go p e below K (T13.setTop (mkF m 52 #[.val (.int p1), .val (.int p2), .val (.int p3), .val (.int p4), .val (.int p5), .val (.ref b1), .unset, .unset, .unset, .unset, .unset, .unset] [(.int (((p1.toUInt32 >>> ((4 : Int32) &&& 31).toUInt32).toInt32) &&& (1 : Int32))), (.int (4 : Int32)), (.ref b1)]))
  refine own_st (fun t k => XS.i2b X13.here hx rfl (hb hby at_52) rfl k) ?_
  show own_Go p e below K (T13.setTop (mkF m 53 #[.val (.int p1), .val (.int p2), .val (.int p3), .val (.int p4), .val (.int p5), .val (.ref b1), .unset, .unset, .unset, .unset, .unset, .unset] [(.int ((((p1.toUInt32 >>> ((4 : Int32) &&& 31).toUInt32).toInt32) &&& (1 : Int32)).toInt8.toInt32)), (.int (4 : Int32)), (.ref b1)]))
  obtain ⟨cl15, Ar15, qa15, Sa15, Ma15, Ha15, Ga15⟩ := id V13
  have hin15 : ¬ ((4 : Int32) < 0 ∨ cl15.slots.size ≤ ((4 : Int32)).toNatClampNeg) := inb_of Sa15 ⟨by decide, by decide⟩
  obtain ⟨T16, h16, X16, e16, W16, st16⟩ := stB X13 hx hZ e13 Ar15 (j := (4 : Int32)) hin15 (g := (mkF m 53 #[.val (.int p1), .val (.int p2), .val (.int p3), .val (.int p4), .val (.int p5), .val (.ref b1), .unset, .unset, .unset, .unset, .unset, .unset] [(.int ((((p1.toUInt32 >>> ((4 : Int32) &&& 31).toUInt32).toInt32) &&& (1 : Int32)).toInt8.toInt32)), (.int (4 : Int32)), (.ref b1)])) rfl rfl (hb hby at_53)
  have id16 : nar .byte ((((p1.toUInt32 >>> ((4 : Int32) &&& 31).toUInt32).toInt32) &&& (1 : Int32)).toInt8.toInt32) = ((((p1.toUInt32 >>> ((4 : Int32) &&& 31).toUInt32).toInt32) &&& (1 : Int32)).toInt8.toInt32) := (own_nb _)
  rw [id16] at W16
  have V16 : Arv Z h16 b1 k1 .byte (6 : Int32) [(.int ((p1 &&& (1 : Int32)).toInt8.toInt32)), (.int ((((p1.toUInt32 >>> ((1 : Int32) &&& 31).toUInt32).toInt32) &&& (1 : Int32)).toInt8.toInt32)), (.int ((((p1.toUInt32 >>> ((2 : Int32) &&& 31).toUInt32).toInt32) &&& (1 : Int32)).toInt8.toInt32)), (.int ((((p1.toUInt32 >>> ((3 : Int32) &&& 31).toUInt32).toInt32) &&& (1 : Int32)).toInt8.toInt32)), (.int ((((p1.toUInt32 >>> ((4 : Int32) &&& 31).toUInt32).toInt32) &&& (1 : Int32)).toInt8.toInt32)), (.int (0 : Int32))] (.int (0 : Int32)) := Arv.set Ar15 qa15 Sa15 Ma15 Ha15 Ga15 (own_fit id16) W16 4 rfl (Nat.le_of_ble_eq_true rfl)
  have f17 : Old Z n0 h16 := f14.wr W16 g_b1
  have N16 := Fr.snoc X16 N13 g_b1
  have Z16 : n0 ≤ h16.size := Nat.le_trans Z13 (Keep.of_wr W16).1
  refine own_st st16 ?_
  show own_Go p e below K (T16.setTop (mkF m 54 #[.val (.int p1), .val (.int p2), .val (.int p3), .val (.int p4), .val (.int p5), .val (.ref b1), .unset, .unset, .unset, .unset, .unset, .unset] []))
  refine own_st (fun t k => XS.aload X16.here hx rfl (hb hby at_54) rfl rfl k) ?_
  show own_Go p e below K (T16.setTop (mkF m 56 #[.val (.int p1), .val (.int p2), .val (.int p3), .val (.int p4), .val (.int p5), .val (.ref b1), .unset, .unset, .unset, .unset, .unset, .unset] [(.ref b1)]))
  refine own_st (fun t k => XS.iconst X16.here hx rfl (hb hby at_56) k) ?_
  show own_Go p e below K (T16.setTop (mkF m 57 #[.val (.int p1), .val (.int p2), .val (.int p3), .val (.int p4), .val (.int p5), .val (.ref b1), .unset, .unset, .unset, .unset, .unset, .unset] [(.int (5 : Int32)), (.ref b1)]))
  refine own_st (fun t k => XS.iloadN X16.here hx rfl (hb hby at_57) rfl k) ?_
  show own_Go p e below K (T16.setTop (mkF m 58 #[.val (.int p1), .val (.int p2), .val (.int p3), .val (.int p4), .val (.int p5), .val (.ref b1), .unset, .unset, .unset, .unset, .unset, .unset] [(.int p1), (.int (5 : Int32)), (.ref b1)]))
  refine own_st (fun t k => XS.iconst X16.here hx rfl (hb hby at_58) k) ?_
  show own_Go p e below K (T16.setTop (mkF m 59 #[.val (.int p1), .val (.int p2), .val (.int p3), .val (.int p4), .val (.int p5), .val (.ref b1), .unset, .unset, .unset, .unset, .unset, .unset] [(.int (5 : Int32)), (.int p1), (.int (5 : Int32)), (.ref b1)]))
  refine own_st (fun t k => XS.iushr X16.here hx rfl (hb hby at_59) rfl k) ?_
  show own_Go p e below K (T16.setTop (mkF m 60 #[.val (.int p1), .val (.int p2), .val (.int p3), .val (.int p4), .val (.int p5), .val (.ref b1), .unset, .unset, .unset, .unset, .unset, .unset] [(.int ((p1.toUInt32 >>> ((5 : Int32) &&& 31).toUInt32).toInt32)), (.int (5 : Int32)), (.ref b1)]))
  refine own_st (fun t k => XS.iconst X16.here hx rfl (hb hby at_60) k) ?_
  show own_Go p e below K (T16.setTop (mkF m 61 #[.val (.int p1), .val (.int p2), .val (.int p3), .val (.int p4), .val (.int p5), .val (.ref b1), .unset, .unset, .unset, .unset, .unset, .unset] [(.int (1 : Int32)), (.int ((p1.toUInt32 >>> ((5 : Int32) &&& 31).toUInt32).toInt32)), (.int (5 : Int32)), (.ref b1)]))
  refine own_st (fun t k => XS.iand X16.here hx rfl (hb hby at_61) rfl k) ?_
  show own_Go p e below K (T16.setTop (mkF m 62 #[.val (.int p1), .val (.int p2), .val (.int p3), .val (.int p4), .val (.int p5), .val (.ref b1), .unset, .unset, .unset, .unset, .unset, .unset] [(.int (((p1.toUInt32 >>> ((5 : Int32) &&& 31).toUInt32).toInt32) &&& (1 : Int32))), (.int (5 : Int32)), (.ref b1)]))
  refine own_st (fun t k => XS.i2b X16.here hx rfl (hb hby at_62) rfl k) ?_
  show own_Go p e below K (T16.setTop (mkF m 63 #[.val (.int p1), .val (.int p2), .val (.int p3), .val (.int p4), .val (.int p5), .val (.ref b1), .unset, .unset, .unset, .unset, .unset, .unset] [(.int ((((p1.toUInt32 >>> ((5 : Int32) &&& 31).toUInt32).toInt32) &&& (1 : Int32)).toInt8.toInt32)), (.int (5 : Int32)), (.ref b1)]))
  obtain ⟨cl18, Ar18, qa18, Sa18, Ma18, Ha18, Ga18⟩ := id V16
  have hin18 : ¬ ((5 : Int32) < 0 ∨ cl18.slots.size ≤ ((5 : Int32)).toNatClampNeg) := inb_of Sa18 ⟨by decide, by decide⟩
  obtain ⟨T19, h19, X19, e19, W19, st19⟩ := stB X16 hx hZ e16 Ar18 (j := (5 : Int32)) hin18 (g := (mkF m 63 #[.val (.int p1), .val (.int p2), .val (.int p3), .val (.int p4), .val (.int p5), .val (.ref b1), .unset, .unset, .unset, .unset, .unset, .unset] [(.int ((((p1.toUInt32 >>> ((5 : Int32) &&& 31).toUInt32).toInt32) &&& (1 : Int32)).toInt8.toInt32)), (.int (5 : Int32)), (.ref b1)])) rfl rfl (hb hby at_63)
  have id19 : nar .byte ((((p1.toUInt32 >>> ((5 : Int32) &&& 31).toUInt32).toInt32) &&& (1 : Int32)).toInt8.toInt32) = ((((p1.toUInt32 >>> ((5 : Int32) &&& 31).toUInt32).toInt32) &&& (1 : Int32)).toInt8.toInt32) := (own_nb _)
  rw [id19] at W19
  have V19 : Arv Z h19 b1 k1 .byte (6 : Int32) [(.int ((p1 &&& (1 : Int32)).toInt8.toInt32)), (.int ((((p1.toUInt32 >>> ((1 : Int32) &&& 31).toUInt32).toInt32) &&& (1 : Int32)).toInt8.toInt32)), (.int ((((p1.toUInt32 >>> ((2 : Int32) &&& 31).toUInt32).toInt32) &&& (1 : Int32)).toInt8.toInt32)), (.int ((((p1.toUInt32 >>> ((3 : Int32) &&& 31).toUInt32).toInt32) &&& (1 : Int32)).toInt8.toInt32)), (.int ((((p1.toUInt32 >>> ((4 : Int32) &&& 31).toUInt32).toInt32) &&& (1 : Int32)).toInt8.toInt32)), (.int ((((p1.toUInt32 >>> ((5 : Int32) &&& 31).toUInt32).toInt32) &&& (1 : Int32)).toInt8.toInt32))] (.int (0 : Int32)) := Arv.set Ar18 qa18 Sa18 Ma18 Ha18 Ga18 (own_fit id19) W19 5 rfl (Nat.le_of_ble_eq_true rfl)
  have f20 : Old Z n0 h19 := f17.wr W19 g_b1
  have N19 := Fr.snoc X19 N16 g_b1
  have Z19 : n0 ≤ h19.size := Nat.le_trans Z16 (Keep.of_wr W19).1
  refine own_st st19 ?_
  show own_Go p e below K (T19.setTop (mkF m 64 #[.val (.int p1), .val (.int p2), .val (.int p3), .val (.int p4), .val (.int p5), .val (.ref b1), .unset, .unset, .unset, .unset, .unset, .unset] []))
  obtain ⟨ys, hys⟩ : ∃ z : List Int32, z = [((p1 &&& (1 : Int32)).toInt8.toInt32), ((((p1.toUInt32 >>> ((1 : Int32) &&& 31).toUInt32).toInt32) &&& (1 : Int32)).toInt8.toInt32), ((((p1.toUInt32 >>> ((2 : Int32) &&& 31).toUInt32).toInt32) &&& (1 : Int32)).toInt8.toInt32), ((((p1.toUInt32 >>> ((3 : Int32) &&& 31).toUInt32).toInt32) &&& (1 : Int32)).toInt8.toInt32), ((((p1.toUInt32 >>> ((4 : Int32) &&& 31).toUInt32).toInt32) &&& (1 : Int32)).toInt8.toInt32), ((((p1.toUInt32 >>> ((5 : Int32) &&& 31).toUInt32).toInt32) &&& (1 : Int32)).toInt8.toInt32)] := ⟨_, rfl⟩
  have V21 : Arv Z h19 b1 k1 .byte (6 : Int32) (ys.map Value.int) (.int (0 : Int32)) := by rw [hys]; exact V19
  have y0 : ys.getD 0 0 = 0 ∨ ys.getD 0 0 = 1 := by rw [hys]; exact own_bit _
  have y1 : ys.getD 1 0 = 0 ∨ ys.getD 1 0 = 1 := by rw [hys]; exact own_bit _
  have y2 : ys.getD 2 0 = 0 ∨ ys.getD 2 0 = 1 := by rw [hys]; exact own_bit _
  have y3 : ys.getD 3 0 = 0 ∨ ys.getD 3 0 = 1 := by rw [hys]; exact own_bit _
  have y4 : ys.getD 4 0 = 0 ∨ ys.getD 4 0 = 1 := by rw [hys]; exact own_bit _
  have y5 : ys.getD 5 0 = 0 ∨ ys.getD 5 0 = 1 := by rw [hys]; exact own_bit _
  refine own_st (fun t k => XS.iload X19.here hx rfl (hb hby at_64) rfl k) ?_
  show own_Go p e below K (T19.setTop (mkF m 66 #[.val (.int p1), .val (.int p2), .val (.int p3), .val (.int p4), .val (.int p5), .val (.ref b1), .unset, .unset, .unset, .unset, .unset, .unset] [(.int p5)]))
  refine own_st (fun t k => XS.iconst X19.here hx rfl (hb hby at_66) k) ?_
  show own_Go p e below K (T19.setTop (mkF m 67 #[.val (.int p1), .val (.int p2), .val (.int p3), .val (.int p4), .val (.int p5), .val (.ref b1), .unset, .unset, .unset, .unset, .unset, .unset] [(.int (1 : Int32)), (.int p5)]))
  refine own_st (fun t k => XS.iand X19.here hx rfl (hb hby at_67) rfl k) ?_
  show own_Go p e below K (T19.setTop (mkF m 68 #[.val (.int p1), .val (.int p2), .val (.int p3), .val (.int p4), .val (.int p5), .val (.ref b1), .unset, .unset, .unset, .unset, .unset, .unset] [(.int (p5 &&& (1 : Int32)))]))
  by_cases hc68 : (p5 &&& (1 : Int32)) = (0 : Int32)
  · refine own_st (fun t k => XS.ifYes X19.here hx rfl (pc0 := 68) (pc' := 75) rfl (hb hby at_68) rfl ((if0 _ _).trans (teq hc68).1) (by decide) (by decide) k) ?_
    show own_Go p e below K (T19.setTop (mkF m 75 #[.val (.int p1), .val (.int p2), .val (.int p3), .val (.int p4), .val (.int p5), .val (.ref b1), .unset, .unset, .unset, .unset, .unset, .unset] []))
    refine own_st (fun t k => XS.iconst X19.here hx rfl (hb hby at_75) k) ?_
    show own_Go p e below K (T19.setTop (mkF m 76 #[.val (.int p1), .val (.int p2), .val (.int p3), .val (.int p4), .val (.int p5), .val (.ref b1), .unset, .unset, .unset, .unset, .unset, .unset] [(.int (0 : Int32))]))
    refine own_st (fun t k => XS.istore X19.here hx rfl (hb hby at_76) rfl (l' := #[.val (.int p1), .val (.int p2), .val (.int p3), .val (.int p4), .val (.int p5), .val (.ref b1), .val (.int (0 : Int32)), .unset, .unset, .unset, .unset, .unset]) rfl k) ?_
    show own_Go p e below K (T19.setTop (mkF m 78 #[.val (.int p1), .val (.int p2), .val (.int p3), .val (.int p4), .val (.int p5), .val (.ref b1), .val (.int (0 : Int32)), .unset, .unset, .unset, .unset, .unset] []))
    refine own_st (fun t k => XS.iloadN X19.here hx rfl (hb hby at_78) rfl k) ?_
    show own_Go p e below K (T19.setTop (mkF m 79 #[.val (.int p1), .val (.int p2), .val (.int p3), .val (.int p4), .val (.int p5), .val (.ref b1), .val (.int (0 : Int32)), .unset, .unset, .unset, .unset, .unset] [(.int p3)]))
    refine own_st (fun t k => XS.iconst X19.here hx rfl (hb hby at_79) k) ?_
    show own_Go p e below K (T19.setTop (mkF m 80 #[.val (.int p1), .val (.int p2), .val (.int p3), .val (.int p4), .val (.int p5), .val (.ref b1), .val (.int (0 : Int32)), .unset, .unset, .unset, .unset, .unset] [(.int (3 : Int32)), (.int p3)]))
    refine own_st (fun t k => XS.iand X19.here hx rfl (hb hby at_80) rfl k) ?_
    show own_Go p e below K (T19.setTop (mkF m 81 #[.val (.int p1), .val (.int p2), .val (.int p3), .val (.int p4), .val (.int p5), .val (.ref b1), .val (.int (0 : Int32)), .unset, .unset, .unset, .unset, .unset] [(.int (p3 &&& (3 : Int32)))]))
    generalize hln : (p3 &&& (3 : Int32)) = ln
    show own_Go p e below K (T19.setTop (mkF m 81 #[.val (.int p1), .val (.int p2), .val (.int p3), .val (.int p4), .val (.int p5), .val (.ref b1), .val (.int (0 : Int32)), .unset, .unset, .unset, .unset, .unset] [(.int ln)]))
    have Bl := own_l3 hln
    have Bl1 := own_p1 (i := ln) ⟨Bl.1, by omega⟩
    refine own_st (fun t k => XS.istore X19.here hx rfl (hb hby at_81) rfl (l' := #[.val (.int p1), .val (.int p2), .val (.int p3), .val (.int p4), .val (.int p5), .val (.ref b1), .val (.int (0 : Int32)), .val (.int ln), .unset, .unset, .unset, .unset]) rfl k) ?_
    show own_Go p e below K (T19.setTop (mkF m 83 #[.val (.int p1), .val (.int p2), .val (.int p3), .val (.int p4), .val (.int p5), .val (.ref b1), .val (.int (0 : Int32)), .val (.int ln), .unset, .unset, .unset, .unset] []))
    refine own_st (fun t k => XS.iload X19.here hx rfl (hb hby at_83) rfl k) ?_
    show own_Go p e below K (T19.setTop (mkF m 85 #[.val (.int p1), .val (.int p2), .val (.int p3), .val (.int p4), .val (.int p5), .val (.ref b1), .val (.int (0 : Int32)), .val (.int ln), .unset, .unset, .unset, .unset] [(.int (0 : Int32))]))
    refine own_st (fun t k => XS.ifYes X19.here hx rfl (pc0 := 85) (pc' := 92) rfl (hb hby at_85) rfl ((if0 _ _).trans (teq (by decide : (0 : Int32) = (0 : Int32))).1) (by decide) (by decide) k) ?_
    show own_Go p e below K (T19.setTop (mkF m 92 #[.val (.int p1), .val (.int p2), .val (.int p3), .val (.int p4), .val (.int p5), .val (.ref b1), .val (.int (0 : Int32)), .val (.int ln), .unset, .unset, .unset, .unset] []))
    refine own_st (fun t k => XS.iloadN X19.here hx rfl (hb hby at_92) rfl k) ?_
    show own_Go p e below K (T19.setTop (mkF m 93 #[.val (.int p1), .val (.int p2), .val (.int p3), .val (.int p4), .val (.int p5), .val (.ref b1), .val (.int (0 : Int32)), .val (.int ln), .unset, .unset, .unset, .unset] [(.int p2)]))
    refine own_st (X19.ldcInt hx hown (mvT hZ (hw _ (List.mem_of_getElem? (i := 1) rfl))) (g := (mkF m 93 #[.val (.int p1), .val (.int p2), .val (.int p3), .val (.int p4), .val (.int p5), .val (.ref b1), .val (.int (0 : Int32)), .val (.int ln), .unset, .unset, .unset, .unset] [(.int p2)])) rfl (hb hby at_93)) ?_
    show own_Go p e below K (T19.setTop (mkF m 95 #[.val (.int p1), .val (.int p2), .val (.int p3), .val (.int p4), .val (.int p5), .val (.ref b1), .val (.int (0 : Int32)), .val (.int ln), .unset, .unset, .unset, .unset] [(.int (2147483647 : Int32)), (.int p2)]))
    refine own_st (fun t k => XS.iand X19.here hx rfl (hb hby at_95) rfl k) ?_
    show own_Go p e below K (T19.setTop (mkF m 96 #[.val (.int p1), .val (.int p2), .val (.int p3), .val (.int p4), .val (.int p5), .val (.ref b1), .val (.int (0 : Int32)), .val (.int ln), .unset, .unset, .unset, .unset] [(.int (p2 &&& (2147483647 : Int32)))]))
    refine own_st (fun t k => XS.iconst X19.here hx rfl (hb hby at_96) k) ?_
    show own_Go p e below K (T19.setTop (mkF m 97 #[.val (.int p1), .val (.int p2), .val (.int p3), .val (.int p4), .val (.int p5), .val (.ref b1), .val (.int (0 : Int32)), .val (.int ln), .unset, .unset, .unset, .unset] [(.int (3 : Int32)), (.int (p2 &&& (2147483647 : Int32)))]))
    refine own_st (fun t k => iremM X19 hx rfl (hb hby at_97) rfl (by decide) k) ?_
    show own_Go p e below K (T19.setTop (mkF m 98 #[.val (.int p1), .val (.int p2), .val (.int p3), .val (.int p4), .val (.int p5), .val (.ref b1), .val (.int (0 : Int32)), .val (.int ln), .unset, .unset, .unset, .unset] [(.int ((p2 &&& (2147483647 : Int32)) % (3 : Int32)))]))
    generalize hof : ((p2 &&& (2147483647 : Int32)) % (3 : Int32)) = of
    show own_Go p e below K (T19.setTop (mkF m 98 #[.val (.int p1), .val (.int p2), .val (.int p3), .val (.int p4), .val (.int p5), .val (.ref b1), .val (.int (0 : Int32)), .val (.int ln), .unset, .unset, .unset, .unset] [(.int of)]))
    have Bo : 0 ≤ of.toInt ∧ of.toInt < 3 := own_rem (by decide) hof
    have G0 := own_G0 of
    have G1 := own_G1 Bo
    have G2 := own_G2 Bo
    have G3 := own_G3 Bo
    refine own_st (fun t k => XS.istore X19.here hx rfl (hb hby at_98) rfl (l' := #[.val (.int p1), .val (.int p2), .val (.int p3), .val (.int p4), .val (.int p5), .val (.ref b1), .val (.int (0 : Int32)), .val (.int ln), .val (.int of), .unset, .unset, .unset]) rfl k) ?_
    show own_Go p e below K (T19.setTop (mkF m 100 #[.val (.int p1), .val (.int p2), .val (.int p3), .val (.int p4), .val (.int p5), .val (.ref b1), .val (.int (0 : Int32)), .val (.int ln), .val (.int of), .unset, .unset, .unset] []))
    refine own_st (fun t k => XS.iload X19.here hx rfl (hb hby at_100) rfl k) ?_
    show own_Go p e below K (T19.setTop (mkF m 102 #[.val (.int p1), .val (.int p2), .val (.int p3), .val (.int p4), .val (.int p5), .val (.ref b1), .val (.int (0 : Int32)), .val (.int ln), .val (.int of), .unset, .unset, .unset] [(.int (0 : Int32))]))
    refine own_st (fun t k => XS.ifYes X19.here hx rfl (pc0 := 102) (pc' := 109) rfl (hb hby at_102) rfl ((if0 _ _).trans (teq (by decide : (0 : Int32) = (0 : Int32))).1) (by decide) (by decide) k) ?_
    show own_Go p e below K (T19.setTop (mkF m 109 #[.val (.int p1), .val (.int p2), .val (.int p3), .val (.int p4), .val (.int p5), .val (.ref b1), .val (.int (0 : Int32)), .val (.int ln), .val (.int of), .unset, .unset, .unset] []))
    refine own_st (fun t k => XS.iloadN X19.here hx rfl (hb hby at_109) rfl k) ?_
    show own_Go p e below K (T19.setTop (mkF m 110 #[.val (.int p1), .val (.int p2), .val (.int p3), .val (.int p4), .val (.int p5), .val (.ref b1), .val (.int (0 : Int32)), .val (.int ln), .val (.int of), .unset, .unset, .unset] [(.int p4)]))
    refine own_st (X19.ldcInt hx hown (mvT hZ (hw _ (List.mem_of_getElem? (i := 1) rfl))) (g := (mkF m 110 #[.val (.int p1), .val (.int p2), .val (.int p3), .val (.int p4), .val (.int p5), .val (.ref b1), .val (.int (0 : Int32)), .val (.int ln), .val (.int of), .unset, .unset, .unset] [(.int p4)])) rfl (hb hby at_110)) ?_
    show own_Go p e below K (T19.setTop (mkF m 112 #[.val (.int p1), .val (.int p2), .val (.int p3), .val (.int p4), .val (.int p5), .val (.ref b1), .val (.int (0 : Int32)), .val (.int ln), .val (.int of), .unset, .unset, .unset] [(.int (2147483647 : Int32)), (.int p4)]))
    refine own_st (fun t k => XS.iand X19.here hx rfl (hb hby at_112) rfl k) ?_
    show own_Go p e below K (T19.setTop (mkF m 113 #[.val (.int p1), .val (.int p2), .val (.int p3), .val (.int p4), .val (.int p5), .val (.ref b1), .val (.int (0 : Int32)), .val (.int ln), .val (.int of), .unset, .unset, .unset] [(.int (p4 &&& (2147483647 : Int32)))]))
    refine own_st (fun t k => XS.iload X19.here hx rfl (hb hby at_113) rfl k) ?_
    show own_Go p e below K (T19.setTop (mkF m 115 #[.val (.int p1), .val (.int p2), .val (.int p3), .val (.int p4), .val (.int p5), .val (.ref b1), .val (.int (0 : Int32)), .val (.int ln), .val (.int of), .unset, .unset, .unset] [(.int ln), (.int (p4 &&& (2147483647 : Int32)))]))
    refine own_st (fun t k => XS.iconst X19.here hx rfl (hb hby at_115) k) ?_
    show own_Go p e below K (T19.setTop (mkF m 116 #[.val (.int p1), .val (.int p2), .val (.int p3), .val (.int p4), .val (.int p5), .val (.ref b1), .val (.int (0 : Int32)), .val (.int ln), .val (.int of), .unset, .unset, .unset] [(.int (1 : Int32)), (.int ln), (.int (p4 &&& (2147483647 : Int32)))]))
    refine own_st (fun t k => XS.iadd X19.here hx rfl (hb hby at_116) rfl k) ?_
    show own_Go p e below K (T19.setTop (mkF m 117 #[.val (.int p1), .val (.int p2), .val (.int p3), .val (.int p4), .val (.int p5), .val (.ref b1), .val (.int (0 : Int32)), .val (.int ln), .val (.int of), .unset, .unset, .unset] [(.int (ln + (1 : Int32))), (.int (p4 &&& (2147483647 : Int32)))]))
    refine own_st (fun t k => iremM X19 hx rfl (hb hby at_117) rfl (own_nz (by rw [Bl1]; omega)) k) ?_
    show own_Go p e below K (T19.setTop (mkF m 118 #[.val (.int p1), .val (.int p2), .val (.int p3), .val (.int p4), .val (.int p5), .val (.ref b1), .val (.int (0 : Int32)), .val (.int ln), .val (.int of), .unset, .unset, .unset] [(.int ((p4 &&& (2147483647 : Int32)) % (ln + (1 : Int32))))]))
    generalize hik : ((p4 &&& (2147483647 : Int32)) % (ln + (1 : Int32))) = ik
    show own_Go p e below K (T19.setTop (mkF m 118 #[.val (.int p1), .val (.int p2), .val (.int p3), .val (.int p4), .val (.int p5), .val (.ref b1), .val (.int (0 : Int32)), .val (.int ln), .val (.int of), .unset, .unset, .unset] [(.int ik)]))
    have Bk : 0 ≤ ik.toInt ∧ ik.toInt < ln.toInt + 1 := Bl1 ▸ own_rem (by rw [Bl1]; omega) hik
    refine own_st (fun t k => XS.istore X19.here hx rfl (hb hby at_118) rfl (l' := #[.val (.int p1), .val (.int p2), .val (.int p3), .val (.int p4), .val (.int p5), .val (.ref b1), .val (.int (0 : Int32)), .val (.int ln), .val (.int of), .val (.int ik), .unset, .unset]) rfl k) ?_
    show own_Go p e below K (T19.setTop (mkF m 120 #[.val (.int p1), .val (.int p2), .val (.int p3), .val (.int p4), .val (.int p5), .val (.ref b1), .val (.int (0 : Int32)), .val (.int ln), .val (.int of), .val (.int ik), .unset, .unset] []))
    obtain ⟨T22, h22, X22, e22, E22, A22, D22, -, st22⟩ := newO X19 hx hZ hown (hw _ (List.mem_of_getElem? (i := 2) rfl)) (hw _ (List.mem_of_getElem? (i := 3) rfl)) (hw _ (List.mem_of_getElem? (i := 4) rfl)) e19 (g := (mkF m 120 #[.val (.int p1), .val (.int p2), .val (.int p3), .val (.int p4), .val (.int p5), .val (.ref b1), .val (.int (0 : Int32)), .val (.int ln), .val (.int of), .val (.int ik), .unset, .unset] [])) rfl (hb hby at_120) (by decide) (by decide)
    obtain ⟨b22, g22⟩ : ∃ z, z = h19.size := ⟨_, rfl⟩
    rw [← g22] at A22 D22 st22
    have ne_b1_b22 : b1 ≠ b22 := Nat.ne_of_lt (Nat.lt_of_lt_of_le V21.lt (Nat.le_of_eq g22.symm))
    have g_b22 : n0 ≤ b22 := Nat.le_trans Z19 (Nat.le_of_eq g22.symm)
    have f23 : Old Z n0 h22 := f20.ext E22
    have f24 : Arv Z h22 b1 k1 .byte (6 : Int32) (ys.map Value.int) (.int (0 : Int32)) := V21.ext E22
    have f25 : Fld Z h22 b22 "com/example/deferline/deferline/io/KeptState$Reader" "kept" "Ljava/util/List;" .null := D22 (Or.inr (hw _ (List.mem_of_getElem? (i := 36) rfl))) (ty := (.object "java/util/List")) (by decide)
    have f26 : Fld Z h22 b22 "com/example/deferline/deferline/io/KeptState$Reader" "bytes" "[B" .null := D22 (Or.inr (hw _ (List.mem_of_getElem? (i := 38) rfl))) (ty := (.array .byte)) (by decide)
    have f27 : Fld Z h22 b22 "com/example/deferline/deferline/io/KeptState$Reader" "position" "I" (.int (0 : Int32)) := D22 (Or.inl (hw _ (List.mem_of_getElem? (i := 40) rfl))) (ty := .int) (by decide)
    have f28 : Fld Z h22 b22 "com/example/deferline/deferline/io/KeptState$Reader" "end" "I" (.int (0 : Int32)) := D22 (Or.inr (hw _ (List.mem_of_getElem? (i := 42) rfl))) (ty := .int) (by decide)
    have Z22 : n0 ≤ h22.size := Nat.le_trans Z19 E22.1
    refine own_st st22 ?_
    show own_Go p e below K (T22.setTop (mkF m 123 #[.val (.int p1), .val (.int p2), .val (.int p3), .val (.int p4), .val (.int p5), .val (.ref b1), .val (.int (0 : Int32)), .val (.int ln), .val (.int of), .val (.int ik), .unset, .unset] [(.ref b22)]))
    refine own_st (fun t k => XS.dup X22.here hx rfl (hb hby at_123) rfl rfl k) ?_
    show own_Go p e below K (T22.setTop (mkF m 124 #[.val (.int p1), .val (.int p2), .val (.int p3), .val (.int p4), .val (.int p5), .val (.ref b1), .val (.int (0 : Int32)), .val (.int ln), .val (.int of), .val (.int ik), .unset, .unset] [(.ref b22), (.ref b22)]))
    refine own_st (fun t k => XS.aload X22.here hx rfl (hb hby at_124) rfl rfl k) ?_
    show own_Go p e below K (T22.setTop (mkF m 126 #[.val (.int p1), .val (.int p2), .val (.int p3), .val (.int p4), .val (.int p5), .val (.ref b1), .val (.int (0 : Int32)), .val (.int ln), .val (.int of), .val (.int ik), .unset, .unset] [(.ref b1), (.ref b22), (.ref b22)]))
    refine own_st (fun t k => XS.iload X22.here hx rfl (hb hby at_126) rfl k) ?_
    show own_Go p e below K (T22.setTop (mkF m 128 #[.val (.int p1), .val (.int p2), .val (.int p3), .val (.int p4), .val (.int p5), .val (.ref b1), .val (.int (0 : Int32)), .val (.int ln), .val (.int of), .val (.int ik), .unset, .unset] [(.int of), (.ref b1), (.ref b22), (.ref b22)]))
    refine own_st (fun t k => XS.iload X22.here hx rfl (hb hby at_128) rfl k) ?_
    show own_Go p e below K (T22.setTop (mkF m 130 #[.val (.int p1), .val (.int p2), .val (.int p3), .val (.int p4), .val (.int p5), .val (.ref b1), .val (.int (0 : Int32)), .val (.int ln), .val (.int of), .val (.int ik), .unset, .unset] [(.int ln), (.int of), (.ref b1), (.ref b22), (.ref b22)]))
    obtain ⟨_, _, ⟨T29, L29, k29, n29⟩, -, X29, ⟨Lc29, hQ29, l29, y29, z29⟩, st29⟩ := X22.specialBack hx (y := (⟨"com/example/deferline/deferline/io/KeptState$Reader", "<init>", "([BII)V"⟩ : MethodName)) rfl hown (mvT hZ (hw _ (List.mem_of_getElem? (i := 5) rfl))) (mvT hZ (hw _ (List.mem_of_getElem? (i := 6) rfl))) (mvT hZ (hw _ (List.mem_of_getElem? (i := 7) rfl))) (by decide) (backOf (W := 1) (rm1 l Z a0 hw [] b22 b1 of ln (xd) h22 n0 Z22 g_b22 A22 f26 f27 f28 f25 f23 SD) hZ (hw _ (List.mem_of_getElem? (i := 7) rfl)) (hw _ (List.mem_of_getElem? (i := 4) rfl)) (by decide) (by decide)) (g := (mkF m 130 #[.val (.int p1), .val (.int p2), .val (.int p3), .val (.int p4), .val (.int p5), .val (.ref b1), .val (.int (0 : Int32)), .val (.int ln), .val (.int of), .val (.int ik), .unset, .unset] [(.int ln), (.int of), (.ref b1), (.ref b22), (.ref b22)])) rfl (by rw [hml]; rfl) (Steps.refl _) (a := b22) (argsL := [(.ref b1), (.int of), (.int ln)]) (rest := [(.ref b22)]) (lenOf pd_0_0 rfl) rfl (by show 2 * 0 + _ ≤ _; exact Nat.le_of_eq rfl) (hb hby at_130) (fun _ _ => ⟨rfl, e22, (by decide : 2 + 1 ≤ _), (by decide : 10 + 3 ≤ _)⟩)
    dsimp only [Pt.U, Pt.locs, Pt.cells, Pt.slots] at X29 l29 y29 z29 st29 hQ29
    subst l29 y29 z29
    obtain ⟨rfl, N29q, Kq29, p29_0, p29_1, p29_2, p29_3⟩ := hQ29
    have N29 := Fr.app N19 N29q
    have f30 : Old Z n0 T29.heap := f23.keep Kq29 (allS (P := fun x => n0 ≤ x) g_b22 all0)
    have f31 : Arv Z T29.heap b1 k1 .byte (6 : Int32) (ys.map Value.int) (.int (0 : Int32)) := f24.keep Kq29 (ninS ne_b1_b22 nin0)
    have Z29 : n0 ≤ T29.heap.size := Nat.le_trans Z22 Kq29.1
    refine own_tr st29 ?_
    show own_Go p e below K (T29.setTop (mkF m 133 #[.val (.int p1), .val (.int p2), .val (.int p3), .val (.int p4), .val (.int p5), .val (.ref b1), .val (.int (0 : Int32)), .val (.int ln), .val (.int of), .val (.int ik), .unset, .unset] [(.ref b22)]))
    refine own_st (fun t k => XS.astore X29.here hx rfl (hb hby at_133) rfl rfl (l' := #[.val (.int p1), .val (.int p2), .val (.int p3), .val (.int p4), .val (.int p5), .val (.ref b1), .val (.int (0 : Int32)), .val (.int ln), .val (.int of), .val (.int ik), .val (.ref b22), .unset]) rfl k) ?_
    show own_Go p e below K (T29.setTop (mkF m 135 #[.val (.int p1), .val (.int p2), .val (.int p3), .val (.int p4), .val (.int p5), .val (.ref b1), .val (.int (0 : Int32)), .val (.int ln), .val (.int of), .val (.int ik), .val (.ref b22), .unset] []))
    refine own_st (fun t k => XS.aload X29.here hx rfl (hb hby at_135) rfl rfl k) ?_
    show own_Go p e below K (T29.setTop (mkF m 137 #[.val (.int p1), .val (.int p2), .val (.int p3), .val (.int p4), .val (.int p5), .val (.ref b1), .val (.int (0 : Int32)), .val (.int ln), .val (.int of), .val (.int ik), .val (.ref b22), .unset] [(.ref b22)]))
    obtain ⟨cq32, kq32, qv32a, qv32b, qv32c⟩ := isOf hZ rfl p29_0
    obtain ⟨_, _, ⟨T32, L32, k32, n32⟩, -, X32, ⟨Lc32, hQ32, l32, y32, z32⟩, st32⟩ := X29.virtualBack hx (y := (⟨"com/example/deferline/deferline/io/KeptState$Reader", "atEnd", "()Z"⟩ : MethodName)) (z := (⟨"com/example/deferline/deferline/io/KeptState$Reader", "atEnd", "()Z"⟩ : MethodName)) hown (mvT hZ (hw _ (List.mem_of_getElem? (i := 43) rfl))) (mvT hZ (hw _ (List.mem_of_getElem? (i := 44) rfl))) (notFace_of_selects (args := #[]) (mvT hZ (hw _ (List.mem_of_getElem? (i := 46) rfl)))) (mvT hZ (hw _ (List.mem_of_getElem? (i := 46) rfl))) (mvT hZ (hw _ (List.mem_of_getElem? (i := 45) rfl))) (by decide) (backOf (W := 0) (rm6 l Z a0 hw [] b22 (of) ((of + ln)) T29.heap n0 Z29 p29_2 p29_3) hZ (hw _ (List.mem_of_getElem? (i := 47) rfl)) (hw _ (List.mem_of_getElem? (i := 4) rfl)) (by decide) (by decide)) qv32a qv32c (g := (mkF m 137 #[.val (.int p1), .val (.int p2), .val (.int p3), .val (.int p4), .val (.int p5), .val (.ref b1), .val (.int (0 : Int32)), .val (.int ln), .val (.int of), .val (.int ik), .val (.ref b22), .unset] [(.ref b22)])) rfl (by rw [hml]; rfl) (Steps.refl _) (argsL := []) (rest := []) (lenOf pd_0_2 rfl) rfl (by show 2 * 0 + _ ≤ _; exact Nat.le_of_eq rfl) (hb hby at_137) (fun _ _ => ⟨rfl, rfl, (by decide : 3 + 0 ≤ _), (by decide : 13 + 0 ≤ _)⟩)
    dsimp only [Pt.U, Pt.locs, Pt.cells, Pt.slots] at X32 l32 y32 z32 st32 hQ32
    subst l32 y32 z32
    obtain ⟨r32, rfl, hr32, N32q, e32⟩ := hQ32
    have N32 := Fr.app N29 N32q
    refine own_tr st32 ?_
    show own_Go p e below K (T32.setTop (mkF m 140 #[.val (.int p1), .val (.int p2), .val (.int p3), .val (.int p4), .val (.int p5), .val (.ref b1), .val (.int (0 : Int32)), .val (.int ln), .val (.int of), .val (.int ik), .val (.ref b22), .unset] [(.int r32)]))
    have J160 : ∀ (T' : State) (locs' : List Loc) (X' : Stand p l e room_1 s m #[(.int p1), (.int p2), (.int p3), (.int p4), (.int p5)] below meth c T' locs' 3 13) (e' : T'.heap = T29.heap) (N' : Fr n0 locs'), (True) → own_Go p e below K (T'.setTop (mkF m 160 #[.val (.int p1), .val (.int p2), .val (.int p3), .val (.int p4), .val (.int p5), .val (.ref b1), .val (.int (0 : Int32)), .val (.int ln), .val (.int of), .val (.int ik), .val (.ref b22), .val (.int (1 : Int32))] [])) := by
      intro T33 locs33 X33 e33 N33  hj160
      refine own_st (fun t k => XS.iload X33.here hx rfl (hb hby at_160) rfl k) ?_
      show own_Go p e below K (T33.setTop (mkF m 162 #[.val (.int p1), .val (.int p2), .val (.int p3), .val (.int p4), .val (.int p5), .val (.ref b1), .val (.int (0 : Int32)), .val (.int ln), .val (.int of), .val (.int ik), .val (.ref b22), .val (.int (1 : Int32))] [(.int ik)]))
      refine own_st (fun t k => XS.iconst X33.here hx rfl (hb hby at_162) k) ?_
      show own_Go p e below K (T33.setTop (mkF m 163 #[.val (.int p1), .val (.int p2), .val (.int p3), .val (.int p4), .val (.int p5), .val (.ref b1), .val (.int (0 : Int32)), .val (.int ln), .val (.int of), .val (.int ik), .val (.ref b22), .val (.int (1 : Int32))] [(.int (1 : Int32)), (.int ik)]))
      by_cases hc163 : ik < (1 : Int32)
      · refine own_st (fun t k => XS.icmpYes X33.here hx rfl (pc0 := 163) (pc' := 203) rfl (hb hby at_163) rfl (tlt hc163).1 (by decide) (by decide) k) ?_
        show own_Go p e below K (T33.setTop (mkF m 203 #[.val (.int p1), .val (.int p2), .val (.int p3), .val (.int p4), .val (.int p5), .val (.ref b1), .val (.int (0 : Int32)), .val (.int ln), .val (.int of), .val (.int ik), .val (.ref b22), .val (.int (1 : Int32))] []))
        refine own_st (fun t k => XS.iload X33.here hx rfl (hb hby at_203) rfl k) ?_
        show own_Go p e below K (T33.setTop (mkF m 205 #[.val (.int p1), .val (.int p2), .val (.int p3), .val (.int p4), .val (.int p5), .val (.ref b1), .val (.int (0 : Int32)), .val (.int ln), .val (.int of), .val (.int ik), .val (.ref b22), .val (.int (1 : Int32))] [(.int ik)]))
        refine own_st (fun t k => XS.iconst X33.here hx rfl (hb hby at_205) k) ?_
        show own_Go p e below K (T33.setTop (mkF m 206 #[.val (.int p1), .val (.int p2), .val (.int p3), .val (.int p4), .val (.int p5), .val (.ref b1), .val (.int (0 : Int32)), .val (.int ln), .val (.int of), .val (.int ik), .val (.ref b22), .val (.int (1 : Int32))] [(.int (2 : Int32)), (.int ik)]))
        refine own_st (fun t k => XS.icmpYes X33.here hx rfl (pc0 := 206) (pc' := 246) rfl (hb hby at_206) rfl (tlt (own_lt (by have := own_ltI hc163; have t1 : (1 : Int32).toInt = 1 := (by decide); have t2 : (2 : Int32).toInt = 2 := (by decide); omega) : ik < (2 : Int32))).1 (by decide) (by decide) k) ?_
        show own_Go p e below K (T33.setTop (mkF m 246 #[.val (.int p1), .val (.int p2), .val (.int p3), .val (.int p4), .val (.int p5), .val (.ref b1), .val (.int (0 : Int32)), .val (.int ln), .val (.int of), .val (.int ik), .val (.ref b22), .val (.int (1 : Int32))] []))
        refine own_st (fun t k => XS.iload X33.here hx rfl (hb hby at_246) rfl k) ?_
        show own_Go p e below K (T33.setTop (mkF m 248 #[.val (.int p1), .val (.int p2), .val (.int p3), .val (.int p4), .val (.int p5), .val (.ref b1), .val (.int (0 : Int32)), .val (.int ln), .val (.int of), .val (.int ik), .val (.ref b22), .val (.int (1 : Int32))] [(.int ik)]))
        refine own_st (fun t k => XS.iconst X33.here hx rfl (hb hby at_248) k) ?_
        show own_Go p e below K (T33.setTop (mkF m 249 #[.val (.int p1), .val (.int p2), .val (.int p3), .val (.int p4), .val (.int p5), .val (.ref b1), .val (.int (0 : Int32)), .val (.int ln), .val (.int of), .val (.int ik), .val (.ref b22), .val (.int (1 : Int32))] [(.int (3 : Int32)), (.int ik)]))
        refine own_st (fun t k => XS.icmpYes X33.here hx rfl (pc0 := 249) (pc' := 289) rfl (hb hby at_249) rfl (tlt (own_lt (by have := own_ltI hc163; have t1 : (1 : Int32).toInt = 1 := (by decide); have t2 : (3 : Int32).toInt = 3 := (by decide); omega) : ik < (3 : Int32))).1 (by decide) (by decide) k) ?_
        show own_Go p e below K (T33.setTop (mkF m 289 #[.val (.int p1), .val (.int p2), .val (.int p3), .val (.int p4), .val (.int p5), .val (.ref b1), .val (.int (0 : Int32)), .val (.int ln), .val (.int of), .val (.int ik), .val (.ref b22), .val (.int (1 : Int32))] []))
        refine own_st (fun t k => XS.iload X33.here hx rfl (hb hby at_289) rfl k) ?_
        show own_Go p e below K (T33.setTop (mkF m 291 #[.val (.int p1), .val (.int p2), .val (.int p3), .val (.int p4), .val (.int p5), .val (.ref b1), .val (.int (0 : Int32)), .val (.int ln), .val (.int of), .val (.int ik), .val (.ref b22), .val (.int (1 : Int32))] [(.int (1 : Int32))]))
        obtain ⟨fs, hr, hrun, hended, hW, hsame⟩ := X33.leave (v := some (.int (nar .boolean (1 : Int32)))) (fun h => by rw [Bd.returns] at h; cases h)
        refine ⟨_, retN X33 hx (t := .boolean) Bd.returns (by simp) (hb hby at_291) hr, fin _ _ _ hrun hended ?_ ⟨⟨_, rfl⟩, hW, hsame.mono (by decide) (by decide)⟩⟩
        show Q0 Z p1 p2 p3 p4 p5 xd h0 n0 _ T33.heap _
        rw [e33]
        exact ⟨rfl, N33⟩
      refine own_st (fun t k => XS.icmpNo X33.here hx rfl (hb hby at_163) rfl (flt hc163).1 k) ?_
      show own_Go p e below K (T33.setTop (mkF m 166 #[.val (.int p1), .val (.int p2), .val (.int p3), .val (.int p4), .val (.int p5), .val (.ref b1), .val (.int (0 : Int32)), .val (.int ln), .val (.int of), .val (.int ik), .val (.ref b22), .val (.int (1 : Int32))] []))
      refine own_st (fun t k => XS.aload X33.here hx rfl (hb hby at_166) rfl rfl k) ?_
      show own_Go p e below K (T33.setTop (mkF m 168 #[.val (.int p1), .val (.int p2), .val (.int p3), .val (.int p4), .val (.int p5), .val (.ref b1), .val (.int (0 : Int32)), .val (.int ln), .val (.int of), .val (.int ik), .val (.ref b22), .val (.int (1 : Int32))] [(.ref b22)]))
      obtain ⟨cq34, kq34, qv34a, qv34b, qv34c⟩ := isOf hZ e33 p29_0
      obtain ⟨_, _, ⟨T34, L34, k34, n34⟩, -, X34, ⟨Lc34, hQ34, l34, y34, z34⟩, st34⟩ := X33.virtualBack hx (y := (⟨"com/example/deferline/deferline/io/KeptState$Reader", "flag", "()Z"⟩ : MethodName)) (z := (⟨"com/example/deferline/deferline/io/KeptState$Reader", "flag", "()Z"⟩ : MethodName)) hown (mvT hZ (hw _ (List.mem_of_getElem? (i := 48) rfl))) (mvT hZ (hw _ (List.mem_of_getElem? (i := 49) rfl))) (notFace_of_selects (args := #[]) (mvT hZ (hw _ (List.mem_of_getElem? (i := 51) rfl)))) (mvT hZ (hw _ (List.mem_of_getElem? (i := 51) rfl))) (mvT hZ (hw _ (List.mem_of_getElem? (i := 50) rfl))) (by decide) (backOf (W := 0) (rm7 l Z a0 hw [] b22 (b1) (of) ((of + ln)) (k1) ((6 : Int32)) (ys) T29.heap n0 Z29 g_b22 (Ne.symm ne_b1_b22) p29_0 p29_1 p29_2 p29_3 f31 (fun q => by have z := ((own_endk (k := 0) Bo Bl G0).mp q); have kk := own_nltI hc163; have t : (1 : Int32).toInt = 1 := (by decide); rw [t] at kk; rw [z] at Bk; have t' : (0 : Int32).toInt = 0 := (by decide); omega) ⟨own_nlt (by rw [G0]; have := Bo.1; have t : (0 : Int32).toInt = 0 := (by decide); show (0 : Int) ≤ _; omega), own_lt (by rw [G0]; have := Bo.2; have t : (0 : Int32).toInt = 0 := (by decide); show _ < (6 : Int); omega)⟩ (own_six y0 y1 y2 y3 y4 y5 (by rw [G0]; have := Bo; have t : (0 : Int32).toInt = 0 := (by decide); omega))) hZ (hw _ (List.mem_of_getElem? (i := 52) rfl)) (hw _ (List.mem_of_getElem? (i := 4) rfl)) (by decide) (by decide)) qv34a qv34c (g := (mkF m 168 #[.val (.int p1), .val (.int p2), .val (.int p3), .val (.int p4), .val (.int p5), .val (.ref b1), .val (.int (0 : Int32)), .val (.int ln), .val (.int of), .val (.int ik), .val (.ref b22), .val (.int (1 : Int32))] [(.ref b22)])) rfl (by rw [hml]; rfl) (Steps.refl _) (argsL := []) (rest := []) (lenOf pd_0_2 rfl) rfl (by show 2 * 0 + _ ≤ _; exact Nat.le_of_eq rfl) (hb hby at_168) (fun _ _ => ⟨rfl, e33, (by decide : 3 + 0 ≤ _), (by decide : 13 + 0 ≤ _)⟩)
      dsimp only [Pt.U, Pt.locs, Pt.cells, Pt.slots] at X34 l34 y34 z34 st34 hQ34
      subst l34 y34 z34
      obtain ⟨r34, rfl, hr34, N34q, Kq34, p34_0, p34_1, p34_2, p34_3⟩ := hQ34
      have N34 := Fr.app N33 N34q
      have f35 : Old Z n0 T34.heap := f30.keep Kq34 (allS (P := fun x => n0 ≤ x) g_b22 all0)
      have f36 : Arv Z T34.heap b1 k1 .byte (6 : Int32) (ys.map Value.int) (.int (0 : Int32)) := f31.keep Kq34 (ninS ne_b1_b22 nin0)
      have Z34 : n0 ≤ T34.heap.size := Nat.le_trans Z29 Kq34.1
      refine own_tr st34 ?_
      show own_Go p e below K (T34.setTop (mkF m 171 #[.val (.int p1), .val (.int p2), .val (.int p3), .val (.int p4), .val (.int p5), .val (.ref b1), .val (.int (0 : Int32)), .val (.int ln), .val (.int of), .val (.int ik), .val (.ref b22), .val (.int (1 : Int32))] [(.int r34)]))
      refine own_st (fun t k => XS.pop X34.here hx rfl (hb hby at_171) rfl rfl k) ?_
      show own_Go p e below K (T34.setTop (mkF m 172 #[.val (.int p1), .val (.int p2), .val (.int p3), .val (.int p4), .val (.int p5), .val (.ref b1), .val (.int (0 : Int32)), .val (.int ln), .val (.int of), .val (.int ik), .val (.ref b22), .val (.int (1 : Int32))] []))
      refine own_st (fun t k => XS.iload X34.here hx rfl (hb hby at_172) rfl k) ?_
      show own_Go p e below K (T34.setTop (mkF m 174 #[.val (.int p1), .val (.int p2), .val (.int p3), .val (.int p4), .val (.int p5), .val (.ref b1), .val (.int (0 : Int32)), .val (.int ln), .val (.int of), .val (.int ik), .val (.ref b22), .val (.int (1 : Int32))] [(.int (1 : Int32))]))
      refine own_st (fun t k => XS.ifNo X34.here hx rfl (hb hby at_174) rfl ((if0 _ _).trans (feq (by decide : ¬ ((1 : Int32) = (0 : Int32)))).1) k) ?_
      show own_Go p e below K (T34.setTop (mkF m 177 #[.val (.int p1), .val (.int p2), .val (.int p3), .val (.int p4), .val (.int p5), .val (.ref b1), .val (.int (0 : Int32)), .val (.int ln), .val (.int of), .val (.int ik), .val (.ref b22), .val (.int (1 : Int32))] []))
      refine own_st (fun t k => XS.aload X34.here hx rfl (hb hby at_177) rfl rfl k) ?_
      show own_Go p e below K (T34.setTop (mkF m 179 #[.val (.int p1), .val (.int p2), .val (.int p3), .val (.int p4), .val (.int p5), .val (.ref b1), .val (.int (0 : Int32)), .val (.int ln), .val (.int of), .val (.int ik), .val (.ref b22), .val (.int (1 : Int32))] [(.ref b22)]))
      obtain ⟨cq37, kq37, qv37a, qv37b, qv37c⟩ := isOf hZ rfl p34_0
      obtain ⟨_, _, ⟨T37, L37, k37, n37⟩, -, X37, ⟨Lc37, hQ37, l37, y37, z37⟩, st37⟩ := X34.virtualBack hx (y := (⟨"com/example/deferline/deferline/io/KeptState$Reader", "atEnd", "()Z"⟩ : MethodName)) (z := (⟨"com/example/deferline/deferline/io/KeptState$Reader", "atEnd", "()Z"⟩ : MethodName)) hown (mvT hZ (hw _ (List.mem_of_getElem? (i := 43) rfl))) (mvT hZ (hw _ (List.mem_of_getElem? (i := 44) rfl))) (notFace_of_selects (args := #[]) (mvT hZ (hw _ (List.mem_of_getElem? (i := 46) rfl)))) (mvT hZ (hw _ (List.mem_of_getElem? (i := 46) rfl))) (mvT hZ (hw _ (List.mem_of_getElem? (i := 45) rfl))) (by decide) (backOf (W := 0) (rm6 l Z a0 hw [] b22 ((of + (1 : Int32))) ((of + ln)) T34.heap n0 Z34 p34_2 p34_3) hZ (hw _ (List.mem_of_getElem? (i := 47) rfl)) (hw _ (List.mem_of_getElem? (i := 4) rfl)) (by decide) (by decide)) qv37a qv37c (g := (mkF m 179 #[.val (.int p1), .val (.int p2), .val (.int p3), .val (.int p4), .val (.int p5), .val (.ref b1), .val (.int (0 : Int32)), .val (.int ln), .val (.int of), .val (.int ik), .val (.ref b22), .val (.int (1 : Int32))] [(.ref b22)])) rfl (by rw [hml]; rfl) (Steps.refl _) (argsL := []) (rest := []) (lenOf pd_0_2 rfl) rfl (by show 2 * 0 + _ ≤ _; exact Nat.le_of_eq rfl) (hb hby at_179) (fun _ _ => ⟨rfl, rfl, (by decide : 3 + 0 ≤ _), (by decide : 13 + 0 ≤ _)⟩)
      dsimp only [Pt.U, Pt.locs, Pt.cells, Pt.slots] at X37 l37 y37 z37 st37 hQ37
      subst l37 y37 z37
      obtain ⟨r37, rfl, hr37, N37q, e37⟩ := hQ37
      have N37 := Fr.app N34 N37q
      refine own_tr st37 ?_
      show own_Go p e below K (T37.setTop (mkF m 182 #[.val (.int p1), .val (.int p2), .val (.int p3), .val (.int p4), .val (.int p5), .val (.ref b1), .val (.int (0 : Int32)), .val (.int ln), .val (.int of), .val (.int ik), .val (.ref b22), .val (.int (1 : Int32))] [(.int r37)]))
      have J203 : ∀ (T' : State) (locs' : List Loc) (X' : Stand p l e room_1 s m #[(.int p1), (.int p2), (.int p3), (.int p4), (.int p5)] below meth c T' locs' 3 13) (e' : T'.heap = T34.heap) (N' : Fr n0 locs'), (True) → own_Go p e below K (T'.setTop (mkF m 203 #[.val (.int p1), .val (.int p2), .val (.int p3), .val (.int p4), .val (.int p5), .val (.ref b1), .val (.int (0 : Int32)), .val (.int ln), .val (.int of), .val (.int ik), .val (.ref b22), .val (.int (1 : Int32))] [])) := by
        intro T38 locs38 X38 e38 N38  hj203
        refine own_st (fun t k => XS.iload X38.here hx rfl (hb hby at_203) rfl k) ?_
        show own_Go p e below K (T38.setTop (mkF m 205 #[.val (.int p1), .val (.int p2), .val (.int p3), .val (.int p4), .val (.int p5), .val (.ref b1), .val (.int (0 : Int32)), .val (.int ln), .val (.int of), .val (.int ik), .val (.ref b22), .val (.int (1 : Int32))] [(.int ik)]))
        refine own_st (fun t k => XS.iconst X38.here hx rfl (hb hby at_205) k) ?_
        show own_Go p e below K (T38.setTop (mkF m 206 #[.val (.int p1), .val (.int p2), .val (.int p3), .val (.int p4), .val (.int p5), .val (.ref b1), .val (.int (0 : Int32)), .val (.int ln), .val (.int of), .val (.int ik), .val (.ref b22), .val (.int (1 : Int32))] [(.int (2 : Int32)), (.int ik)]))
        by_cases hc206 : ik < (2 : Int32)
        · refine own_st (fun t k => XS.icmpYes X38.here hx rfl (pc0 := 206) (pc' := 246) rfl (hb hby at_206) rfl (tlt hc206).1 (by decide) (by decide) k) ?_
          show own_Go p e below K (T38.setTop (mkF m 246 #[.val (.int p1), .val (.int p2), .val (.int p3), .val (.int p4), .val (.int p5), .val (.ref b1), .val (.int (0 : Int32)), .val (.int ln), .val (.int of), .val (.int ik), .val (.ref b22), .val (.int (1 : Int32))] []))
          refine own_st (fun t k => XS.iload X38.here hx rfl (hb hby at_246) rfl k) ?_
          show own_Go p e below K (T38.setTop (mkF m 248 #[.val (.int p1), .val (.int p2), .val (.int p3), .val (.int p4), .val (.int p5), .val (.ref b1), .val (.int (0 : Int32)), .val (.int ln), .val (.int of), .val (.int ik), .val (.ref b22), .val (.int (1 : Int32))] [(.int ik)]))
          refine own_st (fun t k => XS.iconst X38.here hx rfl (hb hby at_248) k) ?_
          show own_Go p e below K (T38.setTop (mkF m 249 #[.val (.int p1), .val (.int p2), .val (.int p3), .val (.int p4), .val (.int p5), .val (.ref b1), .val (.int (0 : Int32)), .val (.int ln), .val (.int of), .val (.int ik), .val (.ref b22), .val (.int (1 : Int32))] [(.int (3 : Int32)), (.int ik)]))
          refine own_st (fun t k => XS.icmpYes X38.here hx rfl (pc0 := 249) (pc' := 289) rfl (hb hby at_249) rfl (tlt (own_lt (by have := own_ltI hc206; have t1 : (2 : Int32).toInt = 2 := (by decide); have t2 : (3 : Int32).toInt = 3 := (by decide); omega) : ik < (3 : Int32))).1 (by decide) (by decide) k) ?_
          show own_Go p e below K (T38.setTop (mkF m 289 #[.val (.int p1), .val (.int p2), .val (.int p3), .val (.int p4), .val (.int p5), .val (.ref b1), .val (.int (0 : Int32)), .val (.int ln), .val (.int of), .val (.int ik), .val (.ref b22), .val (.int (1 : Int32))] []))
          refine own_st (fun t k => XS.iload X38.here hx rfl (hb hby at_289) rfl k) ?_
          show own_Go p e below K (T38.setTop (mkF m 291 #[.val (.int p1), .val (.int p2), .val (.int p3), .val (.int p4), .val (.int p5), .val (.ref b1), .val (.int (0 : Int32)), .val (.int ln), .val (.int of), .val (.int ik), .val (.ref b22), .val (.int (1 : Int32))] [(.int (1 : Int32))]))
          obtain ⟨fs, hr, hrun, hended, hW, hsame⟩ := X38.leave (v := some (.int (nar .boolean (1 : Int32)))) (fun h => by rw [Bd.returns] at h; cases h)
          refine ⟨_, retN X38 hx (t := .boolean) Bd.returns (by simp) (hb hby at_291) hr, fin _ _ _ hrun hended ?_ ⟨⟨_, rfl⟩, hW, hsame.mono (by decide) (by decide)⟩⟩
          show Q0 Z p1 p2 p3 p4 p5 xd h0 n0 _ T38.heap _
          rw [e38]
          exact ⟨rfl, N38⟩
        refine own_st (fun t k => XS.icmpNo X38.here hx rfl (hb hby at_206) rfl (flt hc206).1 k) ?_
        show own_Go p e below K (T38.setTop (mkF m 209 #[.val (.int p1), .val (.int p2), .val (.int p3), .val (.int p4), .val (.int p5), .val (.ref b1), .val (.int (0 : Int32)), .val (.int ln), .val (.int of), .val (.int ik), .val (.ref b22), .val (.int (1 : Int32))] []))
        refine own_st (fun t k => XS.aload X38.here hx rfl (hb hby at_209) rfl rfl k) ?_
        show own_Go p e below K (T38.setTop (mkF m 211 #[.val (.int p1), .val (.int p2), .val (.int p3), .val (.int p4), .val (.int p5), .val (.ref b1), .val (.int (0 : Int32)), .val (.int ln), .val (.int of), .val (.int ik), .val (.ref b22), .val (.int (1 : Int32))] [(.ref b22)]))
        obtain ⟨cq39, kq39, qv39a, qv39b, qv39c⟩ := isOf hZ e38 p34_0
        obtain ⟨_, _, ⟨T39, L39, k39, n39⟩, -, X39, ⟨Lc39, hQ39, l39, y39, z39⟩, st39⟩ := X38.virtualBack hx (y := (⟨"com/example/deferline/deferline/io/KeptState$Reader", "flag", "()Z"⟩ : MethodName)) (z := (⟨"com/example/deferline/deferline/io/KeptState$Reader", "flag", "()Z"⟩ : MethodName)) hown (mvT hZ (hw _ (List.mem_of_getElem? (i := 48) rfl))) (mvT hZ (hw _ (List.mem_of_getElem? (i := 49) rfl))) (notFace_of_selects (args := #[]) (mvT hZ (hw _ (List.mem_of_getElem? (i := 51) rfl)))) (mvT hZ (hw _ (List.mem_of_getElem? (i := 51) rfl))) (mvT hZ (hw _ (List.mem_of_getElem? (i := 50) rfl))) (by decide) (backOf (W := 0) (rm7 l Z a0 hw [] b22 (b1) ((of + (1 : Int32))) ((of + ln)) (k1) ((6 : Int32)) (ys) T34.heap n0 Z34 g_b22 (Ne.symm ne_b1_b22) p34_0 p34_1 p34_2 p34_3 f36 (fun q => by have z := ((own_endk (k := 1) Bo Bl G1).mp q); have kk := own_nltI hc206; have t : (2 : Int32).toInt = 2 := (by decide); rw [t] at kk; rw [z] at Bk; have t' : (1 : Int32).toInt = 1 := (by decide); omega) ⟨own_nlt (by rw [G1]; have := Bo.1; have t : (1 : Int32).toInt = 1 := (by decide); show (0 : Int) ≤ _; omega), own_lt (by rw [G1]; have := Bo.2; have t : (1 : Int32).toInt = 1 := (by decide); show _ < (6 : Int); omega)⟩ (own_six y0 y1 y2 y3 y4 y5 (by rw [G1]; have := Bo; have t : (1 : Int32).toInt = 1 := (by decide); omega))) hZ (hw _ (List.mem_of_getElem? (i := 52) rfl)) (hw _ (List.mem_of_getElem? (i := 4) rfl)) (by decide) (by decide)) qv39a qv39c (g := (mkF m 211 #[.val (.int p1), .val (.int p2), .val (.int p3), .val (.int p4), .val (.int p5), .val (.ref b1), .val (.int (0 : Int32)), .val (.int ln), .val (.int of), .val (.int ik), .val (.ref b22), .val (.int (1 : Int32))] [(.ref b22)])) rfl (by rw [hml]; rfl) (Steps.refl _) (argsL := []) (rest := []) (lenOf pd_0_2 rfl) rfl (by show 2 * 0 + _ ≤ _; exact Nat.le_of_eq rfl) (hb hby at_211) (fun _ _ => ⟨rfl, e38, (by decide : 3 + 0 ≤ _), (by decide : 13 + 0 ≤ _)⟩)
        dsimp only [Pt.U, Pt.locs, Pt.cells, Pt.slots] at X39 l39 y39 z39 st39 hQ39
        subst l39 y39 z39
        obtain ⟨r39, rfl, hr39, N39q, Kq39, p39_0, p39_1, p39_2, p39_3⟩ := hQ39
        have N39 := Fr.app N38 N39q
        have f40 : Old Z n0 T39.heap := f35.keep Kq39 (allS (P := fun x => n0 ≤ x) g_b22 all0)
        have f41 : Arv Z T39.heap b1 k1 .byte (6 : Int32) (ys.map Value.int) (.int (0 : Int32)) := f36.keep Kq39 (ninS ne_b1_b22 nin0)
        have Z39 : n0 ≤ T39.heap.size := Nat.le_trans Z34 Kq39.1
        refine own_tr st39 ?_
        show own_Go p e below K (T39.setTop (mkF m 214 #[.val (.int p1), .val (.int p2), .val (.int p3), .val (.int p4), .val (.int p5), .val (.ref b1), .val (.int (0 : Int32)), .val (.int ln), .val (.int of), .val (.int ik), .val (.ref b22), .val (.int (1 : Int32))] [(.int r39)]))
        refine own_st (fun t k => XS.pop X39.here hx rfl (hb hby at_214) rfl rfl k) ?_
        show own_Go p e below K (T39.setTop (mkF m 215 #[.val (.int p1), .val (.int p2), .val (.int p3), .val (.int p4), .val (.int p5), .val (.ref b1), .val (.int (0 : Int32)), .val (.int ln), .val (.int of), .val (.int ik), .val (.ref b22), .val (.int (1 : Int32))] []))
        refine own_st (fun t k => XS.iload X39.here hx rfl (hb hby at_215) rfl k) ?_
        show own_Go p e below K (T39.setTop (mkF m 217 #[.val (.int p1), .val (.int p2), .val (.int p3), .val (.int p4), .val (.int p5), .val (.ref b1), .val (.int (0 : Int32)), .val (.int ln), .val (.int of), .val (.int ik), .val (.ref b22), .val (.int (1 : Int32))] [(.int (1 : Int32))]))
        refine own_st (fun t k => XS.ifNo X39.here hx rfl (hb hby at_217) rfl ((if0 _ _).trans (feq (by decide : ¬ ((1 : Int32) = (0 : Int32)))).1) k) ?_
        show own_Go p e below K (T39.setTop (mkF m 220 #[.val (.int p1), .val (.int p2), .val (.int p3), .val (.int p4), .val (.int p5), .val (.ref b1), .val (.int (0 : Int32)), .val (.int ln), .val (.int of), .val (.int ik), .val (.ref b22), .val (.int (1 : Int32))] []))
        refine own_st (fun t k => XS.aload X39.here hx rfl (hb hby at_220) rfl rfl k) ?_
        show own_Go p e below K (T39.setTop (mkF m 222 #[.val (.int p1), .val (.int p2), .val (.int p3), .val (.int p4), .val (.int p5), .val (.ref b1), .val (.int (0 : Int32)), .val (.int ln), .val (.int of), .val (.int ik), .val (.ref b22), .val (.int (1 : Int32))] [(.ref b22)]))
        obtain ⟨cq42, kq42, qv42a, qv42b, qv42c⟩ := isOf hZ rfl p39_0
        obtain ⟨_, _, ⟨T42, L42, k42, n42⟩, -, X42, ⟨Lc42, hQ42, l42, y42, z42⟩, st42⟩ := X39.virtualBack hx (y := (⟨"com/example/deferline/deferline/io/KeptState$Reader", "atEnd", "()Z"⟩ : MethodName)) (z := (⟨"com/example/deferline/deferline/io/KeptState$Reader", "atEnd", "()Z"⟩ : MethodName)) hown (mvT hZ (hw _ (List.mem_of_getElem? (i := 43) rfl))) (mvT hZ (hw _ (List.mem_of_getElem? (i := 44) rfl))) (notFace_of_selects (args := #[]) (mvT hZ (hw _ (List.mem_of_getElem? (i := 46) rfl)))) (mvT hZ (hw _ (List.mem_of_getElem? (i := 46) rfl))) (mvT hZ (hw _ (List.mem_of_getElem? (i := 45) rfl))) (by decide) (backOf (W := 0) (rm6 l Z a0 hw [] b22 (((of + (1 : Int32)) + (1 : Int32))) ((of + ln)) T39.heap n0 Z39 p39_2 p39_3) hZ (hw _ (List.mem_of_getElem? (i := 47) rfl)) (hw _ (List.mem_of_getElem? (i := 4) rfl)) (by decide) (by decide)) qv42a qv42c (g := (mkF m 222 #[.val (.int p1), .val (.int p2), .val (.int p3), .val (.int p4), .val (.int p5), .val (.ref b1), .val (.int (0 : Int32)), .val (.int ln), .val (.int of), .val (.int ik), .val (.ref b22), .val (.int (1 : Int32))] [(.ref b22)])) rfl (by rw [hml]; rfl) (Steps.refl _) (argsL := []) (rest := []) (lenOf pd_0_2 rfl) rfl (by show 2 * 0 + _ ≤ _; exact Nat.le_of_eq rfl) (hb hby at_222) (fun _ _ => ⟨rfl, rfl, (by decide : 3 + 0 ≤ _), (by decide : 13 + 0 ≤ _)⟩)
        dsimp only [Pt.U, Pt.locs, Pt.cells, Pt.slots] at X42 l42 y42 z42 st42 hQ42
        subst l42 y42 z42
        obtain ⟨r42, rfl, hr42, N42q, e42⟩ := hQ42
        have N42 := Fr.app N39 N42q
        refine own_tr st42 ?_
        show own_Go p e below K (T42.setTop (mkF m 225 #[.val (.int p1), .val (.int p2), .val (.int p3), .val (.int p4), .val (.int p5), .val (.ref b1), .val (.int (0 : Int32)), .val (.int ln), .val (.int of), .val (.int ik), .val (.ref b22), .val (.int (1 : Int32))] [(.int r42)]))
        have J246 : ∀ (T' : State) (locs' : List Loc) (X' : Stand p l e room_1 s m #[(.int p1), (.int p2), (.int p3), (.int p4), (.int p5)] below meth c T' locs' 3 13) (e' : T'.heap = T39.heap) (N' : Fr n0 locs'), (True) → own_Go p e below K (T'.setTop (mkF m 246 #[.val (.int p1), .val (.int p2), .val (.int p3), .val (.int p4), .val (.int p5), .val (.ref b1), .val (.int (0 : Int32)), .val (.int ln), .val (.int of), .val (.int ik), .val (.ref b22), .val (.int (1 : Int32))] [])) := by
          intro T43 locs43 X43 e43 N43  hj246
          refine own_st (fun t k => XS.iload X43.here hx rfl (hb hby at_246) rfl k) ?_
          show own_Go p e below K (T43.setTop (mkF m 248 #[.val (.int p1), .val (.int p2), .val (.int p3), .val (.int p4), .val (.int p5), .val (.ref b1), .val (.int (0 : Int32)), .val (.int ln), .val (.int of), .val (.int ik), .val (.ref b22), .val (.int (1 : Int32))] [(.int ik)]))
          refine own_st (fun t k => XS.iconst X43.here hx rfl (hb hby at_248) k) ?_
          show own_Go p e below K (T43.setTop (mkF m 249 #[.val (.int p1), .val (.int p2), .val (.int p3), .val (.int p4), .val (.int p5), .val (.ref b1), .val (.int (0 : Int32)), .val (.int ln), .val (.int of), .val (.int ik), .val (.ref b22), .val (.int (1 : Int32))] [(.int (3 : Int32)), (.int ik)]))
          by_cases hc249 : ik < (3 : Int32)
          · refine own_st (fun t k => XS.icmpYes X43.here hx rfl (pc0 := 249) (pc' := 289) rfl (hb hby at_249) rfl (tlt hc249).1 (by decide) (by decide) k) ?_
            show own_Go p e below K (T43.setTop (mkF m 289 #[.val (.int p1), .val (.int p2), .val (.int p3), .val (.int p4), .val (.int p5), .val (.ref b1), .val (.int (0 : Int32)), .val (.int ln), .val (.int of), .val (.int ik), .val (.ref b22), .val (.int (1 : Int32))] []))
            refine own_st (fun t k => XS.iload X43.here hx rfl (hb hby at_289) rfl k) ?_
            show own_Go p e below K (T43.setTop (mkF m 291 #[.val (.int p1), .val (.int p2), .val (.int p3), .val (.int p4), .val (.int p5), .val (.ref b1), .val (.int (0 : Int32)), .val (.int ln), .val (.int of), .val (.int ik), .val (.ref b22), .val (.int (1 : Int32))] [(.int (1 : Int32))]))
            obtain ⟨fs, hr, hrun, hended, hW, hsame⟩ := X43.leave (v := some (.int (nar .boolean (1 : Int32)))) (fun h => by rw [Bd.returns] at h; cases h)
            refine ⟨_, retN X43 hx (t := .boolean) Bd.returns (by simp) (hb hby at_291) hr, fin _ _ _ hrun hended ?_ ⟨⟨_, rfl⟩, hW, hsame.mono (by decide) (by decide)⟩⟩
            show Q0 Z p1 p2 p3 p4 p5 xd h0 n0 _ T43.heap _
            rw [e43]
            exact ⟨rfl, N43⟩
          refine own_st (fun t k => XS.icmpNo X43.here hx rfl (hb hby at_249) rfl (flt hc249).1 k) ?_
          show own_Go p e below K (T43.setTop (mkF m 252 #[.val (.int p1), .val (.int p2), .val (.int p3), .val (.int p4), .val (.int p5), .val (.ref b1), .val (.int (0 : Int32)), .val (.int ln), .val (.int of), .val (.int ik), .val (.ref b22), .val (.int (1 : Int32))] []))
          refine own_st (fun t k => XS.aload X43.here hx rfl (hb hby at_252) rfl rfl k) ?_
          show own_Go p e below K (T43.setTop (mkF m 254 #[.val (.int p1), .val (.int p2), .val (.int p3), .val (.int p4), .val (.int p5), .val (.ref b1), .val (.int (0 : Int32)), .val (.int ln), .val (.int of), .val (.int ik), .val (.ref b22), .val (.int (1 : Int32))] [(.ref b22)]))
          obtain ⟨cq44, kq44, qv44a, qv44b, qv44c⟩ := isOf hZ e43 p39_0
          obtain ⟨_, _, ⟨T44, L44, k44, n44⟩, -, X44, ⟨Lc44, hQ44, l44, y44, z44⟩, st44⟩ := X43.virtualBack hx (y := (⟨"com/example/deferline/deferline/io/KeptState$Reader", "flag", "()Z"⟩ : MethodName)) (z := (⟨"com/example/deferline/deferline/io/KeptState$Reader", "flag", "()Z"⟩ : MethodName)) hown (mvT hZ (hw _ (List.mem_of_getElem? (i := 48) rfl))) (mvT hZ (hw _ (List.mem_of_getElem? (i := 49) rfl))) (notFace_of_selects (args := #[]) (mvT hZ (hw _ (List.mem_of_getElem? (i := 51) rfl)))) (mvT hZ (hw _ (List.mem_of_getElem? (i := 51) rfl))) (mvT hZ (hw _ (List.mem_of_getElem? (i := 50) rfl))) (by decide) (backOf (W := 0) (rm7 l Z a0 hw [] b22 (b1) (((of + (1 : Int32)) + (1 : Int32))) ((of + ln)) (k1) ((6 : Int32)) (ys) T39.heap n0 Z39 g_b22 (Ne.symm ne_b1_b22) p39_0 p39_1 p39_2 p39_3 f41 (fun q => by have z := ((own_endk (k := 2) Bo Bl G2).mp q); have kk := own_nltI hc249; have t : (3 : Int32).toInt = 3 := (by decide); rw [t] at kk; rw [z] at Bk; have t' : (2 : Int32).toInt = 2 := (by decide); omega) ⟨own_nlt (by rw [G2]; have := Bo.1; have t : (2 : Int32).toInt = 2 := (by decide); show (0 : Int) ≤ _; omega), own_lt (by rw [G2]; have := Bo.2; have t : (2 : Int32).toInt = 2 := (by decide); show _ < (6 : Int); omega)⟩ (own_six y0 y1 y2 y3 y4 y5 (by rw [G2]; have := Bo; have t : (2 : Int32).toInt = 2 := (by decide); omega))) hZ (hw _ (List.mem_of_getElem? (i := 52) rfl)) (hw _ (List.mem_of_getElem? (i := 4) rfl)) (by decide) (by decide)) qv44a qv44c (g := (mkF m 254 #[.val (.int p1), .val (.int p2), .val (.int p3), .val (.int p4), .val (.int p5), .val (.ref b1), .val (.int (0 : Int32)), .val (.int ln), .val (.int of), .val (.int ik), .val (.ref b22), .val (.int (1 : Int32))] [(.ref b22)])) rfl (by rw [hml]; rfl) (Steps.refl _) (argsL := []) (rest := []) (lenOf pd_0_2 rfl) rfl (by show 2 * 0 + _ ≤ _; exact Nat.le_of_eq rfl) (hb hby at_254) (fun _ _ => ⟨rfl, e43, (by decide : 3 + 0 ≤ _), (by decide : 13 + 0 ≤ _)⟩)
          dsimp only [Pt.U, Pt.locs, Pt.cells, Pt.slots] at X44 l44 y44 z44 st44 hQ44
          subst l44 y44 z44
          obtain ⟨r44, rfl, hr44, N44q, Kq44, p44_0, p44_1, p44_2, p44_3⟩ := hQ44
          have N44 := Fr.app N43 N44q
          have f45 : Old Z n0 T44.heap := f40.keep Kq44 (allS (P := fun x => n0 ≤ x) g_b22 all0)
          have f46 : Arv Z T44.heap b1 k1 .byte (6 : Int32) (ys.map Value.int) (.int (0 : Int32)) := f41.keep Kq44 (ninS ne_b1_b22 nin0)
          have Z44 : n0 ≤ T44.heap.size := Nat.le_trans Z39 Kq44.1
          refine own_tr st44 ?_
          show own_Go p e below K (T44.setTop (mkF m 257 #[.val (.int p1), .val (.int p2), .val (.int p3), .val (.int p4), .val (.int p5), .val (.ref b1), .val (.int (0 : Int32)), .val (.int ln), .val (.int of), .val (.int ik), .val (.ref b22), .val (.int (1 : Int32))] [(.int r44)]))
          refine own_st (fun t k => XS.pop X44.here hx rfl (hb hby at_257) rfl rfl k) ?_
          show own_Go p e below K (T44.setTop (mkF m 258 #[.val (.int p1), .val (.int p2), .val (.int p3), .val (.int p4), .val (.int p5), .val (.ref b1), .val (.int (0 : Int32)), .val (.int ln), .val (.int of), .val (.int ik), .val (.ref b22), .val (.int (1 : Int32))] []))
          refine own_st (fun t k => XS.iload X44.here hx rfl (hb hby at_258) rfl k) ?_
          show own_Go p e below K (T44.setTop (mkF m 260 #[.val (.int p1), .val (.int p2), .val (.int p3), .val (.int p4), .val (.int p5), .val (.ref b1), .val (.int (0 : Int32)), .val (.int ln), .val (.int of), .val (.int ik), .val (.ref b22), .val (.int (1 : Int32))] [(.int (1 : Int32))]))
          refine own_st (fun t k => XS.ifNo X44.here hx rfl (hb hby at_260) rfl ((if0 _ _).trans (feq (by decide : ¬ ((1 : Int32) = (0 : Int32)))).1) k) ?_
          show own_Go p e below K (T44.setTop (mkF m 263 #[.val (.int p1), .val (.int p2), .val (.int p3), .val (.int p4), .val (.int p5), .val (.ref b1), .val (.int (0 : Int32)), .val (.int ln), .val (.int of), .val (.int ik), .val (.ref b22), .val (.int (1 : Int32))] []))
          refine own_st (fun t k => XS.aload X44.here hx rfl (hb hby at_263) rfl rfl k) ?_
          show own_Go p e below K (T44.setTop (mkF m 265 #[.val (.int p1), .val (.int p2), .val (.int p3), .val (.int p4), .val (.int p5), .val (.ref b1), .val (.int (0 : Int32)), .val (.int ln), .val (.int of), .val (.int ik), .val (.ref b22), .val (.int (1 : Int32))] [(.ref b22)]))
          obtain ⟨cq47, kq47, qv47a, qv47b, qv47c⟩ := isOf hZ rfl p44_0
          obtain ⟨_, _, ⟨T47, L47, k47, n47⟩, -, X47, ⟨Lc47, hQ47, l47, y47, z47⟩, st47⟩ := X44.virtualBack hx (y := (⟨"com/example/deferline/deferline/io/KeptState$Reader", "atEnd", "()Z"⟩ : MethodName)) (z := (⟨"com/example/deferline/deferline/io/KeptState$Reader", "atEnd", "()Z"⟩ : MethodName)) hown (mvT hZ (hw _ (List.mem_of_getElem? (i := 43) rfl))) (mvT hZ (hw _ (List.mem_of_getElem? (i := 44) rfl))) (notFace_of_selects (args := #[]) (mvT hZ (hw _ (List.mem_of_getElem? (i := 46) rfl)))) (mvT hZ (hw _ (List.mem_of_getElem? (i := 46) rfl))) (mvT hZ (hw _ (List.mem_of_getElem? (i := 45) rfl))) (by decide) (backOf (W := 0) (rm6 l Z a0 hw [] b22 ((((of + (1 : Int32)) + (1 : Int32)) + (1 : Int32))) ((of + ln)) T44.heap n0 Z44 p44_2 p44_3) hZ (hw _ (List.mem_of_getElem? (i := 47) rfl)) (hw _ (List.mem_of_getElem? (i := 4) rfl)) (by decide) (by decide)) qv47a qv47c (g := (mkF m 265 #[.val (.int p1), .val (.int p2), .val (.int p3), .val (.int p4), .val (.int p5), .val (.ref b1), .val (.int (0 : Int32)), .val (.int ln), .val (.int of), .val (.int ik), .val (.ref b22), .val (.int (1 : Int32))] [(.ref b22)])) rfl (by rw [hml]; rfl) (Steps.refl _) (argsL := []) (rest := []) (lenOf pd_0_2 rfl) rfl (by show 2 * 0 + _ ≤ _; exact Nat.le_of_eq rfl) (hb hby at_265) (fun _ _ => ⟨rfl, rfl, (by decide : 3 + 0 ≤ _), (by decide : 13 + 0 ≤ _)⟩)
          dsimp only [Pt.U, Pt.locs, Pt.cells, Pt.slots] at X47 l47 y47 z47 st47 hQ47
          subst l47 y47 z47
          obtain ⟨r47, rfl, hr47, N47q, e47⟩ := hQ47
          have N47 := Fr.app N44 N47q
          refine own_tr st47 ?_
          show own_Go p e below K (T47.setTop (mkF m 268 #[.val (.int p1), .val (.int p2), .val (.int p3), .val (.int p4), .val (.int p5), .val (.ref b1), .val (.int (0 : Int32)), .val (.int ln), .val (.int of), .val (.int ik), .val (.ref b22), .val (.int (1 : Int32))] [(.int r47)]))
          have J289 : ∀ (T' : State) (locs' : List Loc) (X' : Stand p l e room_1 s m #[(.int p1), (.int p2), (.int p3), (.int p4), (.int p5)] below meth c T' locs' 3 13) (e' : T'.heap = T44.heap) (N' : Fr n0 locs'), (True) → own_Go p e below K (T'.setTop (mkF m 289 #[.val (.int p1), .val (.int p2), .val (.int p3), .val (.int p4), .val (.int p5), .val (.ref b1), .val (.int (0 : Int32)), .val (.int ln), .val (.int of), .val (.int ik), .val (.ref b22), .val (.int (1 : Int32))] [])) := by
            intro T48 locs48 X48 e48 N48  hj289
            refine own_st (fun t k => XS.iload X48.here hx rfl (hb hby at_289) rfl k) ?_
            show own_Go p e below K (T48.setTop (mkF m 291 #[.val (.int p1), .val (.int p2), .val (.int p3), .val (.int p4), .val (.int p5), .val (.ref b1), .val (.int (0 : Int32)), .val (.int ln), .val (.int of), .val (.int ik), .val (.ref b22), .val (.int (1 : Int32))] [(.int (1 : Int32))]))
            obtain ⟨fs, hr, hrun, hended, hW, hsame⟩ := X48.leave (v := some (.int (nar .boolean (1 : Int32)))) (fun h => by rw [Bd.returns] at h; cases h)
            refine ⟨_, retN X48 hx (t := .boolean) Bd.returns (by simp) (hb hby at_291) hr, fin _ _ _ hrun hended ?_ ⟨⟨_, rfl⟩, hW, hsame.mono (by decide) (by decide)⟩⟩
            show Q0 Z p1 p2 p3 p4 p5 xd h0 n0 _ T48.heap _
            rw [e48]
            exact ⟨rfl, N48⟩
          refine own_st (fun t k => XS.iload X47.here hx rfl (hb hby at_268) rfl k) ?_
          show own_Go p e below K (T47.setTop (mkF m 270 #[.val (.int p1), .val (.int p2), .val (.int p3), .val (.int p4), .val (.int p5), .val (.ref b1), .val (.int (0 : Int32)), .val (.int ln), .val (.int of), .val (.int ik), .val (.ref b22), .val (.int (1 : Int32))] [(.int ln), (.int r47)]))
          refine own_st (fun t k => XS.iconst X47.here hx rfl (hb hby at_270) k) ?_
          show own_Go p e below K (T47.setTop (mkF m 271 #[.val (.int p1), .val (.int p2), .val (.int p3), .val (.int p4), .val (.int p5), .val (.ref b1), .val (.int (0 : Int32)), .val (.int ln), .val (.int of), .val (.int ik), .val (.ref b22), .val (.int (1 : Int32))] [(.int (3 : Int32)), (.int ln), (.int r47)]))
          by_cases hc271 : ln = (3 : Int32)
          · refine own_st (fun t k => XS.icmpNo X47.here hx rfl (hb hby at_271) rfl (teq hc271).2 k) ?_
            show own_Go p e below K (T47.setTop (mkF m 274 #[.val (.int p1), .val (.int p2), .val (.int p3), .val (.int p4), .val (.int p5), .val (.ref b1), .val (.int (0 : Int32)), .val (.int ln), .val (.int of), .val (.int ik), .val (.ref b22), .val (.int (1 : Int32))] [(.int r47)]))
            refine own_st (fun t k => XS.iconst X47.here hx rfl (hb hby at_274) k) ?_
            show own_Go p e below K (T47.setTop (mkF m 275 #[.val (.int p1), .val (.int p2), .val (.int p3), .val (.int p4), .val (.int p5), .val (.ref b1), .val (.int (0 : Int32)), .val (.int ln), .val (.int of), .val (.int ik), .val (.ref b22), .val (.int (1 : Int32))] [(.int (1 : Int32)), (.int r47)]))
            refine own_st (fun t k => XS.goto X47.here hx rfl (pc0 := 275) (pc' := 279) rfl (hb hby at_275) (by decide) (by decide) k) ?_
            show own_Go p e below K (T47.setTop (mkF m 279 #[.val (.int p1), .val (.int p2), .val (.int p3), .val (.int p4), .val (.int p5), .val (.ref b1), .val (.int (0 : Int32)), .val (.int ln), .val (.int of), .val (.int ik), .val (.ref b22), .val (.int (1 : Int32))] [(.int (1 : Int32)), (.int r47)]))
            refine own_st (fun t k => XS.icmpNo X47.here hx rfl (hb hby at_279) rfl (teq (own_B.one hr47 ((own_endk (k := 3) Bo Bl G3).mpr hc271) : r47 = (1 : Int32))).2 k) ?_
            show own_Go p e below K (T47.setTop (mkF m 282 #[.val (.int p1), .val (.int p2), .val (.int p3), .val (.int p4), .val (.int p5), .val (.ref b1), .val (.int (0 : Int32)), .val (.int ln), .val (.int of), .val (.int ik), .val (.ref b22), .val (.int (1 : Int32))] []))
            refine own_st (fun t k => XS.iconst X47.here hx rfl (hb hby at_282) k) ?_
            show own_Go p e below K (T47.setTop (mkF m 283 #[.val (.int p1), .val (.int p2), .val (.int p3), .val (.int p4), .val (.int p5), .val (.ref b1), .val (.int (0 : Int32)), .val (.int ln), .val (.int of), .val (.int ik), .val (.ref b22), .val (.int (1 : Int32))] [(.int (1 : Int32))]))
            refine own_st (fun t k => XS.goto X47.here hx rfl (pc0 := 283) (pc' := 287) rfl (hb hby at_283) (by decide) (by decide) k) ?_
            show own_Go p e below K (T47.setTop (mkF m 287 #[.val (.int p1), .val (.int p2), .val (.int p3), .val (.int p4), .val (.int p5), .val (.ref b1), .val (.int (0 : Int32)), .val (.int ln), .val (.int of), .val (.int ik), .val (.ref b22), .val (.int (1 : Int32))] [(.int (1 : Int32))]))
            refine own_st (fun t k => XS.istore X47.here hx rfl (hb hby at_287) rfl (l' := #[.val (.int p1), .val (.int p2), .val (.int p3), .val (.int p4), .val (.int p5), .val (.ref b1), .val (.int (0 : Int32)), .val (.int ln), .val (.int of), .val (.int ik), .val (.ref b22), .val (.int (1 : Int32))]) rfl k) ?_
            show own_Go p e below K (T47.setTop (mkF m 289 #[.val (.int p1), .val (.int p2), .val (.int p3), .val (.int p4), .val (.int p5), .val (.ref b1), .val (.int (0 : Int32)), .val (.int ln), .val (.int of), .val (.int ik), .val (.ref b22), .val (.int (1 : Int32))] []))
            exact J289 T47 _ X47 e47 N47  trivial
          refine own_st (fun t k => XS.icmpYes X47.here hx rfl (pc0 := 271) (pc' := 278) rfl (hb hby at_271) rfl (feq hc271).2 (by decide) (by decide) k) ?_
          show own_Go p e below K (T47.setTop (mkF m 278 #[.val (.int p1), .val (.int p2), .val (.int p3), .val (.int p4), .val (.int p5), .val (.ref b1), .val (.int (0 : Int32)), .val (.int ln), .val (.int of), .val (.int ik), .val (.ref b22), .val (.int (1 : Int32))] [(.int r47)]))
          refine own_st (fun t k => XS.iconst X47.here hx rfl (hb hby at_278) k) ?_
          show own_Go p e below K (T47.setTop (mkF m 279 #[.val (.int p1), .val (.int p2), .val (.int p3), .val (.int p4), .val (.int p5), .val (.ref b1), .val (.int (0 : Int32)), .val (.int ln), .val (.int of), .val (.int ik), .val (.ref b22), .val (.int (1 : Int32))] [(.int (0 : Int32)), (.int r47)]))
          refine own_st (fun t k => XS.icmpNo X47.here hx rfl (hb hby at_279) rfl (teq (own_B.zero hr47 (fun q => hc271 ((own_endk (k := 3) Bo Bl G3).mp q)) : r47 = (0 : Int32))).2 k) ?_
          show own_Go p e below K (T47.setTop (mkF m 282 #[.val (.int p1), .val (.int p2), .val (.int p3), .val (.int p4), .val (.int p5), .val (.ref b1), .val (.int (0 : Int32)), .val (.int ln), .val (.int of), .val (.int ik), .val (.ref b22), .val (.int (1 : Int32))] []))
          refine own_st (fun t k => XS.iconst X47.here hx rfl (hb hby at_282) k) ?_
          show own_Go p e below K (T47.setTop (mkF m 283 #[.val (.int p1), .val (.int p2), .val (.int p3), .val (.int p4), .val (.int p5), .val (.ref b1), .val (.int (0 : Int32)), .val (.int ln), .val (.int of), .val (.int ik), .val (.ref b22), .val (.int (1 : Int32))] [(.int (1 : Int32))]))
          refine own_st (fun t k => XS.goto X47.here hx rfl (pc0 := 283) (pc' := 287) rfl (hb hby at_283) (by decide) (by decide) k) ?_
          show own_Go p e below K (T47.setTop (mkF m 287 #[.val (.int p1), .val (.int p2), .val (.int p3), .val (.int p4), .val (.int p5), .val (.ref b1), .val (.int (0 : Int32)), .val (.int ln), .val (.int of), .val (.int ik), .val (.ref b22), .val (.int (1 : Int32))] [(.int (1 : Int32))]))
          refine own_st (fun t k => XS.istore X47.here hx rfl (hb hby at_287) rfl (l' := #[.val (.int p1), .val (.int p2), .val (.int p3), .val (.int p4), .val (.int p5), .val (.ref b1), .val (.int (0 : Int32)), .val (.int ln), .val (.int of), .val (.int ik), .val (.ref b22), .val (.int (1 : Int32))]) rfl k) ?_
          show own_Go p e below K (T47.setTop (mkF m 289 #[.val (.int p1), .val (.int p2), .val (.int p3), .val (.int p4), .val (.int p5), .val (.ref b1), .val (.int (0 : Int32)), .val (.int ln), .val (.int of), .val (.int ik), .val (.ref b22), .val (.int (1 : Int32))] []))
          exact J289 T47 _ X47 e47 N47  trivial
        refine own_st (fun t k => XS.iload X42.here hx rfl (hb hby at_225) rfl k) ?_
        show own_Go p e below K (T42.setTop (mkF m 227 #[.val (.int p1), .val (.int p2), .val (.int p3), .val (.int p4), .val (.int p5), .val (.ref b1), .val (.int (0 : Int32)), .val (.int ln), .val (.int of), .val (.int ik), .val (.ref b22), .val (.int (1 : Int32))] [(.int ln), (.int r42)]))
        refine own_st (fun t k => XS.iconst X42.here hx rfl (hb hby at_227) k) ?_
        show own_Go p e below K (T42.setTop (mkF m 228 #[.val (.int p1), .val (.int p2), .val (.int p3), .val (.int p4), .val (.int p5), .val (.ref b1), .val (.int (0 : Int32)), .val (.int ln), .val (.int of), .val (.int ik), .val (.ref b22), .val (.int (1 : Int32))] [(.int (2 : Int32)), (.int ln), (.int r42)]))
        by_cases hc228 : ln = (2 : Int32)
        · refine own_st (fun t k => XS.icmpNo X42.here hx rfl (hb hby at_228) rfl (teq hc228).2 k) ?_
          show own_Go p e below K (T42.setTop (mkF m 231 #[.val (.int p1), .val (.int p2), .val (.int p3), .val (.int p4), .val (.int p5), .val (.ref b1), .val (.int (0 : Int32)), .val (.int ln), .val (.int of), .val (.int ik), .val (.ref b22), .val (.int (1 : Int32))] [(.int r42)]))
          refine own_st (fun t k => XS.iconst X42.here hx rfl (hb hby at_231) k) ?_
          show own_Go p e below K (T42.setTop (mkF m 232 #[.val (.int p1), .val (.int p2), .val (.int p3), .val (.int p4), .val (.int p5), .val (.ref b1), .val (.int (0 : Int32)), .val (.int ln), .val (.int of), .val (.int ik), .val (.ref b22), .val (.int (1 : Int32))] [(.int (1 : Int32)), (.int r42)]))
          refine own_st (fun t k => XS.goto X42.here hx rfl (pc0 := 232) (pc' := 236) rfl (hb hby at_232) (by decide) (by decide) k) ?_
          show own_Go p e below K (T42.setTop (mkF m 236 #[.val (.int p1), .val (.int p2), .val (.int p3), .val (.int p4), .val (.int p5), .val (.ref b1), .val (.int (0 : Int32)), .val (.int ln), .val (.int of), .val (.int ik), .val (.ref b22), .val (.int (1 : Int32))] [(.int (1 : Int32)), (.int r42)]))
          refine own_st (fun t k => XS.icmpNo X42.here hx rfl (hb hby at_236) rfl (teq (own_B.one hr42 ((own_endk (k := 2) Bo Bl G2).mpr hc228) : r42 = (1 : Int32))).2 k) ?_
          show own_Go p e below K (T42.setTop (mkF m 239 #[.val (.int p1), .val (.int p2), .val (.int p3), .val (.int p4), .val (.int p5), .val (.ref b1), .val (.int (0 : Int32)), .val (.int ln), .val (.int of), .val (.int ik), .val (.ref b22), .val (.int (1 : Int32))] []))
          refine own_st (fun t k => XS.iconst X42.here hx rfl (hb hby at_239) k) ?_
          show own_Go p e below K (T42.setTop (mkF m 240 #[.val (.int p1), .val (.int p2), .val (.int p3), .val (.int p4), .val (.int p5), .val (.ref b1), .val (.int (0 : Int32)), .val (.int ln), .val (.int of), .val (.int ik), .val (.ref b22), .val (.int (1 : Int32))] [(.int (1 : Int32))]))
          refine own_st (fun t k => XS.goto X42.here hx rfl (pc0 := 240) (pc' := 244) rfl (hb hby at_240) (by decide) (by decide) k) ?_
          show own_Go p e below K (T42.setTop (mkF m 244 #[.val (.int p1), .val (.int p2), .val (.int p3), .val (.int p4), .val (.int p5), .val (.ref b1), .val (.int (0 : Int32)), .val (.int ln), .val (.int of), .val (.int ik), .val (.ref b22), .val (.int (1 : Int32))] [(.int (1 : Int32))]))
          refine own_st (fun t k => XS.istore X42.here hx rfl (hb hby at_244) rfl (l' := #[.val (.int p1), .val (.int p2), .val (.int p3), .val (.int p4), .val (.int p5), .val (.ref b1), .val (.int (0 : Int32)), .val (.int ln), .val (.int of), .val (.int ik), .val (.ref b22), .val (.int (1 : Int32))]) rfl k) ?_
          show own_Go p e below K (T42.setTop (mkF m 246 #[.val (.int p1), .val (.int p2), .val (.int p3), .val (.int p4), .val (.int p5), .val (.ref b1), .val (.int (0 : Int32)), .val (.int ln), .val (.int of), .val (.int ik), .val (.ref b22), .val (.int (1 : Int32))] []))
          exact J246 T42 _ X42 e42 N42  trivial
        refine own_st (fun t k => XS.icmpYes X42.here hx rfl (pc0 := 228) (pc' := 235) rfl (hb hby at_228) rfl (feq hc228).2 (by decide) (by decide) k) ?_
        show own_Go p e below K (T42.setTop (mkF m 235 #[.val (.int p1), .val (.int p2), .val (.int p3), .val (.int p4), .val (.int p5), .val (.ref b1), .val (.int (0 : Int32)), .val (.int ln), .val (.int of), .val (.int ik), .val (.ref b22), .val (.int (1 : Int32))] [(.int r42)]))
        refine own_st (fun t k => XS.iconst X42.here hx rfl (hb hby at_235) k) ?_
        show own_Go p e below K (T42.setTop (mkF m 236 #[.val (.int p1), .val (.int p2), .val (.int p3), .val (.int p4), .val (.int p5), .val (.ref b1), .val (.int (0 : Int32)), .val (.int ln), .val (.int of), .val (.int ik), .val (.ref b22), .val (.int (1 : Int32))] [(.int (0 : Int32)), (.int r42)]))
        refine own_st (fun t k => XS.icmpNo X42.here hx rfl (hb hby at_236) rfl (teq (own_B.zero hr42 (fun q => hc228 ((own_endk (k := 2) Bo Bl G2).mp q)) : r42 = (0 : Int32))).2 k) ?_
        show own_Go p e below K (T42.setTop (mkF m 239 #[.val (.int p1), .val (.int p2), .val (.int p3), .val (.int p4), .val (.int p5), .val (.ref b1), .val (.int (0 : Int32)), .val (.int ln), .val (.int of), .val (.int ik), .val (.ref b22), .val (.int (1 : Int32))] []))
        refine own_st (fun t k => XS.iconst X42.here hx rfl (hb hby at_239) k) ?_
        show own_Go p e below K (T42.setTop (mkF m 240 #[.val (.int p1), .val (.int p2), .val (.int p3), .val (.int p4), .val (.int p5), .val (.ref b1), .val (.int (0 : Int32)), .val (.int ln), .val (.int of), .val (.int ik), .val (.ref b22), .val (.int (1 : Int32))] [(.int (1 : Int32))]))
        refine own_st (fun t k => XS.goto X42.here hx rfl (pc0 := 240) (pc' := 244) rfl (hb hby at_240) (by decide) (by decide) k) ?_
        show own_Go p e below K (T42.setTop (mkF m 244 #[.val (.int p1), .val (.int p2), .val (.int p3), .val (.int p4), .val (.int p5), .val (.ref b1), .val (.int (0 : Int32)), .val (.int ln), .val (.int of), .val (.int ik), .val (.ref b22), .val (.int (1 : Int32))] [(.int (1 : Int32))]))
        refine own_st (fun t k => XS.istore X42.here hx rfl (hb hby at_244) rfl (l' := #[.val (.int p1), .val (.int p2), .val (.int p3), .val (.int p4), .val (.int p5), .val (.ref b1), .val (.int (0 : Int32)), .val (.int ln), .val (.int of), .val (.int ik), .val (.ref b22), .val (.int (1 : Int32))]) rfl k) ?_
        show own_Go p e below K (T42.setTop (mkF m 246 #[.val (.int p1), .val (.int p2), .val (.int p3), .val (.int p4), .val (.int p5), .val (.ref b1), .val (.int (0 : Int32)), .val (.int ln), .val (.int of), .val (.int ik), .val (.ref b22), .val (.int (1 : Int32))] []))
        exact J246 T42 _ X42 e42 N42  trivial
      refine own_st (fun t k => XS.iload X37.here hx rfl (hb hby at_182) rfl k) ?_
      show own_Go p e below K (T37.setTop (mkF m 184 #[.val (.int p1), .val (.int p2), .val (.int p3), .val (.int p4), .val (.int p5), .val (.ref b1), .val (.int (0 : Int32)), .val (.int ln), .val (.int of), .val (.int ik), .val (.ref b22), .val (.int (1 : Int32))] [(.int ln), (.int r37)]))
      refine own_st (fun t k => XS.iconst X37.here hx rfl (hb hby at_184) k) ?_
      show own_Go p e below K (T37.setTop (mkF m 185 #[.val (.int p1), .val (.int p2), .val (.int p3), .val (.int p4), .val (.int p5), .val (.ref b1), .val (.int (0 : Int32)), .val (.int ln), .val (.int of), .val (.int ik), .val (.ref b22), .val (.int (1 : Int32))] [(.int (1 : Int32)), (.int ln), (.int r37)]))
      by_cases hc185 : ln = (1 : Int32)
      · refine own_st (fun t k => XS.icmpNo X37.here hx rfl (hb hby at_185) rfl (teq hc185).2 k) ?_
        show own_Go p e below K (T37.setTop (mkF m 188 #[.val (.int p1), .val (.int p2), .val (.int p3), .val (.int p4), .val (.int p5), .val (.ref b1), .val (.int (0 : Int32)), .val (.int ln), .val (.int of), .val (.int ik), .val (.ref b22), .val (.int (1 : Int32))] [(.int r37)]))
        refine own_st (fun t k => XS.iconst X37.here hx rfl (hb hby at_188) k) ?_
        show own_Go p e below K (T37.setTop (mkF m 189 #[.val (.int p1), .val (.int p2), .val (.int p3), .val (.int p4), .val (.int p5), .val (.ref b1), .val (.int (0 : Int32)), .val (.int ln), .val (.int of), .val (.int ik), .val (.ref b22), .val (.int (1 : Int32))] [(.int (1 : Int32)), (.int r37)]))
        refine own_st (fun t k => XS.goto X37.here hx rfl (pc0 := 189) (pc' := 193) rfl (hb hby at_189) (by decide) (by decide) k) ?_
        show own_Go p e below K (T37.setTop (mkF m 193 #[.val (.int p1), .val (.int p2), .val (.int p3), .val (.int p4), .val (.int p5), .val (.ref b1), .val (.int (0 : Int32)), .val (.int ln), .val (.int of), .val (.int ik), .val (.ref b22), .val (.int (1 : Int32))] [(.int (1 : Int32)), (.int r37)]))
        refine own_st (fun t k => XS.icmpNo X37.here hx rfl (hb hby at_193) rfl (teq (own_B.one hr37 ((own_endk (k := 1) Bo Bl G1).mpr hc185) : r37 = (1 : Int32))).2 k) ?_
        show own_Go p e below K (T37.setTop (mkF m 196 #[.val (.int p1), .val (.int p2), .val (.int p3), .val (.int p4), .val (.int p5), .val (.ref b1), .val (.int (0 : Int32)), .val (.int ln), .val (.int of), .val (.int ik), .val (.ref b22), .val (.int (1 : Int32))] []))
        refine own_st (fun t k => XS.iconst X37.here hx rfl (hb hby at_196) k) ?_
        show own_Go p e below K (T37.setTop (mkF m 197 #[.val (.int p1), .val (.int p2), .val (.int p3), .val (.int p4), .val (.int p5), .val (.ref b1), .val (.int (0 : Int32)), .val (.int ln), .val (.int of), .val (.int ik), .val (.ref b22), .val (.int (1 : Int32))] [(.int (1 : Int32))]))
        refine own_st (fun t k => XS.goto X37.here hx rfl (pc0 := 197) (pc' := 201) rfl (hb hby at_197) (by decide) (by decide) k) ?_
        show own_Go p e below K (T37.setTop (mkF m 201 #[.val (.int p1), .val (.int p2), .val (.int p3), .val (.int p4), .val (.int p5), .val (.ref b1), .val (.int (0 : Int32)), .val (.int ln), .val (.int of), .val (.int ik), .val (.ref b22), .val (.int (1 : Int32))] [(.int (1 : Int32))]))
        refine own_st (fun t k => XS.istore X37.here hx rfl (hb hby at_201) rfl (l' := #[.val (.int p1), .val (.int p2), .val (.int p3), .val (.int p4), .val (.int p5), .val (.ref b1), .val (.int (0 : Int32)), .val (.int ln), .val (.int of), .val (.int ik), .val (.ref b22), .val (.int (1 : Int32))]) rfl k) ?_
        show own_Go p e below K (T37.setTop (mkF m 203 #[.val (.int p1), .val (.int p2), .val (.int p3), .val (.int p4), .val (.int p5), .val (.ref b1), .val (.int (0 : Int32)), .val (.int ln), .val (.int of), .val (.int ik), .val (.ref b22), .val (.int (1 : Int32))] []))
        exact J203 T37 _ X37 e37 N37  trivial
      refine own_st (fun t k => XS.icmpYes X37.here hx rfl (pc0 := 185) (pc' := 192) rfl (hb hby at_185) rfl (feq hc185).2 (by decide) (by decide) k) ?_
      show own_Go p e below K (T37.setTop (mkF m 192 #[.val (.int p1), .val (.int p2), .val (.int p3), .val (.int p4), .val (.int p5), .val (.ref b1), .val (.int (0 : Int32)), .val (.int ln), .val (.int of), .val (.int ik), .val (.ref b22), .val (.int (1 : Int32))] [(.int r37)]))
      refine own_st (fun t k => XS.iconst X37.here hx rfl (hb hby at_192) k) ?_
      show own_Go p e below K (T37.setTop (mkF m 193 #[.val (.int p1), .val (.int p2), .val (.int p3), .val (.int p4), .val (.int p5), .val (.ref b1), .val (.int (0 : Int32)), .val (.int ln), .val (.int of), .val (.int ik), .val (.ref b22), .val (.int (1 : Int32))] [(.int (0 : Int32)), (.int r37)]))
      refine own_st (fun t k => XS.icmpNo X37.here hx rfl (hb hby at_193) rfl (teq (own_B.zero hr37 (fun q => hc185 ((own_endk (k := 1) Bo Bl G1).mp q)) : r37 = (0 : Int32))).2 k) ?_
      show own_Go p e below K (T37.setTop (mkF m 196 #[.val (.int p1), .val (.int p2), .val (.int p3), .val (.int p4), .val (.int p5), .val (.ref b1), .val (.int (0 : Int32)), .val (.int ln), .val (.int of), .val (.int ik), .val (.ref b22), .val (.int (1 : Int32))] []))
      refine own_st (fun t k => XS.iconst X37.here hx rfl (hb hby at_196) k) ?_
      show own_Go p e below K (T37.setTop (mkF m 197 #[.val (.int p1), .val (.int p2), .val (.int p3), .val (.int p4), .val (.int p5), .val (.ref b1), .val (.int (0 : Int32)), .val (.int ln), .val (.int of), .val (.int ik), .val (.ref b22), .val (.int (1 : Int32))] [(.int (1 : Int32))]))
      refine own_st (fun t k => XS.goto X37.here hx rfl (pc0 := 197) (pc' := 201) rfl (hb hby at_197) (by decide) (by decide) k) ?_
      show own_Go p e below K (T37.setTop (mkF m 201 #[.val (.int p1), .val (.int p2), .val (.int p3), .val (.int p4), .val (.int p5), .val (.ref b1), .val (.int (0 : Int32)), .val (.int ln), .val (.int of), .val (.int ik), .val (.ref b22), .val (.int (1 : Int32))] [(.int (1 : Int32))]))
      refine own_st (fun t k => XS.istore X37.here hx rfl (hb hby at_201) rfl (l' := #[.val (.int p1), .val (.int p2), .val (.int p3), .val (.int p4), .val (.int p5), .val (.ref b1), .val (.int (0 : Int32)), .val (.int ln), .val (.int of), .val (.int ik), .val (.ref b22), .val (.int (1 : Int32))]) rfl k) ?_
      show own_Go p e below K (T37.setTop (mkF m 203 #[.val (.int p1), .val (.int p2), .val (.int p3), .val (.int p4), .val (.int p5), .val (.ref b1), .val (.int (0 : Int32)), .val (.int ln), .val (.int of), .val (.int ik), .val (.ref b22), .val (.int (1 : Int32))] []))
      exact J203 T37 _ X37 e37 N37  trivial
    refine own_st (fun t k => XS.iload X32.here hx rfl (hb hby at_140) rfl k) ?_
    show own_Go p e below K (T32.setTop (mkF m 142 #[.val (.int p1), .val (.int p2), .val (.int p3), .val (.int p4), .val (.int p5), .val (.ref b1), .val (.int (0 : Int32)), .val (.int ln), .val (.int of), .val (.int ik), .val (.ref b22), .unset] [(.int ln), (.int r32)]))
    by_cases hc142 : ln = (0 : Int32)
    · refine own_st (fun t k => XS.ifNo X32.here hx rfl (hb hby at_142) rfl ((if0 _ _).trans (teq hc142).2) k) ?_
      show own_Go p e below K (T32.setTop (mkF m 145 #[.val (.int p1), .val (.int p2), .val (.int p3), .val (.int p4), .val (.int p5), .val (.ref b1), .val (.int (0 : Int32)), .val (.int ln), .val (.int of), .val (.int ik), .val (.ref b22), .unset] [(.int r32)]))
      refine own_st (fun t k => XS.iconst X32.here hx rfl (hb hby at_145) k) ?_
      show own_Go p e below K (T32.setTop (mkF m 146 #[.val (.int p1), .val (.int p2), .val (.int p3), .val (.int p4), .val (.int p5), .val (.ref b1), .val (.int (0 : Int32)), .val (.int ln), .val (.int of), .val (.int ik), .val (.ref b22), .unset] [(.int (1 : Int32)), (.int r32)]))
      refine own_st (fun t k => XS.goto X32.here hx rfl (pc0 := 146) (pc' := 150) rfl (hb hby at_146) (by decide) (by decide) k) ?_
      show own_Go p e below K (T32.setTop (mkF m 150 #[.val (.int p1), .val (.int p2), .val (.int p3), .val (.int p4), .val (.int p5), .val (.ref b1), .val (.int (0 : Int32)), .val (.int ln), .val (.int of), .val (.int ik), .val (.ref b22), .unset] [(.int (1 : Int32)), (.int r32)]))
      refine own_st (fun t k => XS.icmpNo X32.here hx rfl (hb hby at_150) rfl (teq (own_B.one hr32 ((own_end0 _ _).mpr hc142) : r32 = (1 : Int32))).2 k) ?_
      show own_Go p e below K (T32.setTop (mkF m 153 #[.val (.int p1), .val (.int p2), .val (.int p3), .val (.int p4), .val (.int p5), .val (.ref b1), .val (.int (0 : Int32)), .val (.int ln), .val (.int of), .val (.int ik), .val (.ref b22), .unset] []))
      refine own_st (fun t k => XS.iconst X32.here hx rfl (hb hby at_153) k) ?_
      show own_Go p e below K (T32.setTop (mkF m 154 #[.val (.int p1), .val (.int p2), .val (.int p3), .val (.int p4), .val (.int p5), .val (.ref b1), .val (.int (0 : Int32)), .val (.int ln), .val (.int of), .val (.int ik), .val (.ref b22), .unset] [(.int (1 : Int32))]))
      refine own_st (fun t k => XS.goto X32.here hx rfl (pc0 := 154) (pc' := 158) rfl (hb hby at_154) (by decide) (by decide) k) ?_
      show own_Go p e below K (T32.setTop (mkF m 158 #[.val (.int p1), .val (.int p2), .val (.int p3), .val (.int p4), .val (.int p5), .val (.ref b1), .val (.int (0 : Int32)), .val (.int ln), .val (.int of), .val (.int ik), .val (.ref b22), .unset] [(.int (1 : Int32))]))
      refine own_st (fun t k => XS.istore X32.here hx rfl (hb hby at_158) rfl (l' := #[.val (.int p1), .val (.int p2), .val (.int p3), .val (.int p4), .val (.int p5), .val (.ref b1), .val (.int (0 : Int32)), .val (.int ln), .val (.int of), .val (.int ik), .val (.ref b22), .val (.int (1 : Int32))]) rfl k) ?_
      show own_Go p e below K (T32.setTop (mkF m 160 #[.val (.int p1), .val (.int p2), .val (.int p3), .val (.int p4), .val (.int p5), .val (.ref b1), .val (.int (0 : Int32)), .val (.int ln), .val (.int of), .val (.int ik), .val (.ref b22), .val (.int (1 : Int32))] []))
      exact J160 T32 _ X32 e32 N32  trivial
    refine own_st (fun t k => XS.ifYes X32.here hx rfl (pc0 := 142) (pc' := 149) rfl (hb hby at_142) rfl ((if0 _ _).trans (feq hc142).2) (by decide) (by decide) k) ?_
    show own_Go p e below K (T32.setTop (mkF m 149 #[.val (.int p1), .val (.int p2), .val (.int p3), .val (.int p4), .val (.int p5), .val (.ref b1), .val (.int (0 : Int32)), .val (.int ln), .val (.int of), .val (.int ik), .val (.ref b22), .unset] [(.int r32)]))
    refine own_st (fun t k => XS.iconst X32.here hx rfl (hb hby at_149) k) ?_
    show own_Go p e below K (T32.setTop (mkF m 150 #[.val (.int p1), .val (.int p2), .val (.int p3), .val (.int p4), .val (.int p5), .val (.ref b1), .val (.int (0 : Int32)), .val (.int ln), .val (.int of), .val (.int ik), .val (.ref b22), .unset] [(.int (0 : Int32)), (.int r32)]))
    refine own_st (fun t k => XS.icmpNo X32.here hx rfl (hb hby at_150) rfl (teq (own_B.zero hr32 (fun q => hc142 ((own_end0 _ _).mp q)) : r32 = (0 : Int32))).2 k) ?_
    show own_Go p e below K (T32.setTop (mkF m 153 #[.val (.int p1), .val (.int p2), .val (.int p3), .val (.int p4), .val (.int p5), .val (.ref b1), .val (.int (0 : Int32)), .val (.int ln), .val (.int of), .val (.int ik), .val (.ref b22), .unset] []))
    refine own_st (fun t k => XS.iconst X32.here hx rfl (hb hby at_153) k) ?_
    show own_Go p e below K (T32.setTop (mkF m 154 #[.val (.int p1), .val (.int p2), .val (.int p3), .val (.int p4), .val (.int p5), .val (.ref b1), .val (.int (0 : Int32)), .val (.int ln), .val (.int of), .val (.int ik), .val (.ref b22), .unset] [(.int (1 : Int32))]))
    refine own_st (fun t k => XS.goto X32.here hx rfl (pc0 := 154) (pc' := 158) rfl (hb hby at_154) (by decide) (by decide) k) ?_
    show own_Go p e below K (T32.setTop (mkF m 158 #[.val (.int p1), .val (.int p2), .val (.int p3), .val (.int p4), .val (.int p5), .val (.ref b1), .val (.int (0 : Int32)), .val (.int ln), .val (.int of), .val (.int ik), .val (.ref b22), .unset] [(.int (1 : Int32))]))
    refine own_st (fun t k => XS.istore X32.here hx rfl (hb hby at_158) rfl (l' := #[.val (.int p1), .val (.int p2), .val (.int p3), .val (.int p4), .val (.int p5), .val (.ref b1), .val (.int (0 : Int32)), .val (.int ln), .val (.int of), .val (.int ik), .val (.ref b22), .val (.int (1 : Int32))]) rfl k) ?_
    show own_Go p e below K (T32.setTop (mkF m 160 #[.val (.int p1), .val (.int p2), .val (.int p3), .val (.int p4), .val (.int p5), .val (.ref b1), .val (.int (0 : Int32)), .val (.int ln), .val (.int of), .val (.int ik), .val (.ref b22), .val (.int (1 : Int32))] []))
    exact J160 T32 _ X32 e32 N32  trivial
  refine own_st (fun t k => XS.ifNo X19.here hx rfl (hb hby at_68) rfl ((if0 _ _).trans (feq hc68).1) k) ?_
  show own_Go p e below K (T19.setTop (mkF m 71 #[.val (.int p1), .val (.int p2), .val (.int p3), .val (.int p4), .val (.int p5), .val (.ref b1), .unset, .unset, .unset, .unset, .unset, .unset] []))
  refine own_st (fun t k => XS.iconst X19.here hx rfl (hb hby at_71) k) ?_
  show own_Go p e below K (T19.setTop (mkF m 72 #[.val (.int p1), .val (.int p2), .val (.int p3), .val (.int p4), .val (.int p5), .val (.ref b1), .unset, .unset, .unset, .unset, .unset, .unset] [(.int (1 : Int32))]))
  refine own_st (fun t k => XS.goto X19.here hx rfl (pc0 := 72) (pc' := 76) rfl (hb hby at_72) (by decide) (by decide) k) ?_
  show own_Go p e below K (T19.setTop (mkF m 76 #[.val (.int p1), .val (.int p2), .val (.int p3), .val (.int p4), .val (.int p5), .val (.ref b1), .unset, .unset, .unset, .unset, .unset, .unset] [(.int (1 : Int32))]))
  refine own_st (fun t k => XS.istore X19.here hx rfl (hb hby at_76) rfl (l' := #[.val (.int p1), .val (.int p2), .val (.int p3), .val (.int p4), .val (.int p5), .val (.ref b1), .val (.int (1 : Int32)), .unset, .unset, .unset, .unset, .unset]) rfl k) ?_
  show own_Go p e below K (T19.setTop (mkF m 78 #[.val (.int p1), .val (.int p2), .val (.int p3), .val (.int p4), .val (.int p5), .val (.ref b1), .val (.int (1 : Int32)), .unset, .unset, .unset, .unset, .unset] []))
  refine own_st (fun t k => XS.iloadN X19.here hx rfl (hb hby at_78) rfl k) ?_
  show own_Go p e below K (T19.setTop (mkF m 79 #[.val (.int p1), .val (.int p2), .val (.int p3), .val (.int p4), .val (.int p5), .val (.ref b1), .val (.int (1 : Int32)), .unset, .unset, .unset, .unset, .unset] [(.int p3)]))
  refine own_st (fun t k => XS.iconst X19.here hx rfl (hb hby at_79) k) ?_
  show own_Go p e below K (T19.setTop (mkF m 80 #[.val (.int p1), .val (.int p2), .val (.int p3), .val (.int p4), .val (.int p5), .val (.ref b1), .val (.int (1 : Int32)), .unset, .unset, .unset, .unset, .unset] [(.int (3 : Int32)), (.int p3)]))
  refine own_st (fun t k => XS.iand X19.here hx rfl (hb hby at_80) rfl k) ?_
  show own_Go p e below K (T19.setTop (mkF m 81 #[.val (.int p1), .val (.int p2), .val (.int p3), .val (.int p4), .val (.int p5), .val (.ref b1), .val (.int (1 : Int32)), .unset, .unset, .unset, .unset, .unset] [(.int (p3 &&& (3 : Int32)))]))
  generalize hln : (p3 &&& (3 : Int32)) = ln
  show own_Go p e below K (T19.setTop (mkF m 81 #[.val (.int p1), .val (.int p2), .val (.int p3), .val (.int p4), .val (.int p5), .val (.ref b1), .val (.int (1 : Int32)), .unset, .unset, .unset, .unset, .unset] [(.int ln)]))
  have Bl := own_l3 hln
  have Bl1 := own_p1 (i := ln) ⟨Bl.1, by omega⟩
  refine own_st (fun t k => XS.istore X19.here hx rfl (hb hby at_81) rfl (l' := #[.val (.int p1), .val (.int p2), .val (.int p3), .val (.int p4), .val (.int p5), .val (.ref b1), .val (.int (1 : Int32)), .val (.int ln), .unset, .unset, .unset, .unset]) rfl k) ?_
  show own_Go p e below K (T19.setTop (mkF m 83 #[.val (.int p1), .val (.int p2), .val (.int p3), .val (.int p4), .val (.int p5), .val (.ref b1), .val (.int (1 : Int32)), .val (.int ln), .unset, .unset, .unset, .unset] []))
  refine own_st (fun t k => XS.iload X19.here hx rfl (hb hby at_83) rfl k) ?_
  show own_Go p e below K (T19.setTop (mkF m 85 #[.val (.int p1), .val (.int p2), .val (.int p3), .val (.int p4), .val (.int p5), .val (.ref b1), .val (.int (1 : Int32)), .val (.int ln), .unset, .unset, .unset, .unset] [(.int (1 : Int32))]))
  refine own_st (fun t k => XS.ifNo X19.here hx rfl (hb hby at_85) rfl ((if0 _ _).trans (feq (by decide : ¬ ((1 : Int32) = (0 : Int32)))).1) k) ?_
  show own_Go p e below K (T19.setTop (mkF m 88 #[.val (.int p1), .val (.int p2), .val (.int p3), .val (.int p4), .val (.int p5), .val (.ref b1), .val (.int (1 : Int32)), .val (.int ln), .unset, .unset, .unset, .unset] []))
  refine own_st (fun t k => XS.iloadN X19.here hx rfl (hb hby at_88) rfl k) ?_
  show own_Go p e below K (T19.setTop (mkF m 89 #[.val (.int p1), .val (.int p2), .val (.int p3), .val (.int p4), .val (.int p5), .val (.ref b1), .val (.int (1 : Int32)), .val (.int ln), .unset, .unset, .unset, .unset] [(.int p2)]))
  refine own_st (fun t k => XS.goto X19.here hx rfl (pc0 := 89) (pc' := 98) rfl (hb hby at_89) (by decide) (by decide) k) ?_
  show own_Go p e below K (T19.setTop (mkF m 98 #[.val (.int p1), .val (.int p2), .val (.int p3), .val (.int p4), .val (.int p5), .val (.ref b1), .val (.int (1 : Int32)), .val (.int ln), .unset, .unset, .unset, .unset] [(.int p2)]))
  refine own_st (fun t k => XS.istore X19.here hx rfl (hb hby at_98) rfl (l' := #[.val (.int p1), .val (.int p2), .val (.int p3), .val (.int p4), .val (.int p5), .val (.ref b1), .val (.int (1 : Int32)), .val (.int ln), .val (.int p2), .unset, .unset, .unset]) rfl k) ?_
  show own_Go p e below K (T19.setTop (mkF m 100 #[.val (.int p1), .val (.int p2), .val (.int p3), .val (.int p4), .val (.int p5), .val (.ref b1), .val (.int (1 : Int32)), .val (.int ln), .val (.int p2), .unset, .unset, .unset] []))
  refine own_st (fun t k => XS.iload X19.here hx rfl (hb hby at_100) rfl k) ?_
  show own_Go p e below K (T19.setTop (mkF m 102 #[.val (.int p1), .val (.int p2), .val (.int p3), .val (.int p4), .val (.int p5), .val (.ref b1), .val (.int (1 : Int32)), .val (.int ln), .val (.int p2), .unset, .unset, .unset] [(.int (1 : Int32))]))
  refine own_st (fun t k => XS.ifNo X19.here hx rfl (hb hby at_102) rfl ((if0 _ _).trans (feq (by decide : ¬ ((1 : Int32) = (0 : Int32)))).1) k) ?_
  show own_Go p e below K (T19.setTop (mkF m 105 #[.val (.int p1), .val (.int p2), .val (.int p3), .val (.int p4), .val (.int p5), .val (.ref b1), .val (.int (1 : Int32)), .val (.int ln), .val (.int p2), .unset, .unset, .unset] []))
  refine own_st (fun t k => XS.iconst X19.here hx rfl (hb hby at_105) k) ?_
  show own_Go p e below K (T19.setTop (mkF m 106 #[.val (.int p1), .val (.int p2), .val (.int p3), .val (.int p4), .val (.int p5), .val (.ref b1), .val (.int (1 : Int32)), .val (.int ln), .val (.int p2), .unset, .unset, .unset] [(.int (0 : Int32))]))
  refine own_st (fun t k => XS.goto X19.here hx rfl (pc0 := 106) (pc' := 118) rfl (hb hby at_106) (by decide) (by decide) k) ?_
  show own_Go p e below K (T19.setTop (mkF m 118 #[.val (.int p1), .val (.int p2), .val (.int p3), .val (.int p4), .val (.int p5), .val (.ref b1), .val (.int (1 : Int32)), .val (.int ln), .val (.int p2), .unset, .unset, .unset] [(.int (0 : Int32))]))
  refine own_st (fun t k => XS.istore X19.here hx rfl (hb hby at_118) rfl (l' := #[.val (.int p1), .val (.int p2), .val (.int p3), .val (.int p4), .val (.int p5), .val (.ref b1), .val (.int (1 : Int32)), .val (.int ln), .val (.int p2), .val (.int (0 : Int32)), .unset, .unset]) rfl k) ?_
  show own_Go p e below K (T19.setTop (mkF m 120 #[.val (.int p1), .val (.int p2), .val (.int p3), .val (.int p4), .val (.int p5), .val (.ref b1), .val (.int (1 : Int32)), .val (.int ln), .val (.int p2), .val (.int (0 : Int32)), .unset, .unset] []))
  obtain ⟨T49, h49, X49, e49, E49, A49, D49, -, st49⟩ := newO X19 hx hZ hown (hw _ (List.mem_of_getElem? (i := 2) rfl)) (hw _ (List.mem_of_getElem? (i := 3) rfl)) (hw _ (List.mem_of_getElem? (i := 4) rfl)) e19 (g := (mkF m 120 #[.val (.int p1), .val (.int p2), .val (.int p3), .val (.int p4), .val (.int p5), .val (.ref b1), .val (.int (1 : Int32)), .val (.int ln), .val (.int p2), .val (.int (0 : Int32)), .unset, .unset] [])) rfl (hb hby at_120) (by decide) (by decide)
  obtain ⟨b49, g49⟩ : ∃ z, z = h19.size := ⟨_, rfl⟩
  rw [← g49] at A49 D49 st49
  have ne_b1_b49 : b1 ≠ b49 := Nat.ne_of_lt (Nat.lt_of_lt_of_le V21.lt (Nat.le_of_eq g49.symm))
  have g_b49 : n0 ≤ b49 := Nat.le_trans Z19 (Nat.le_of_eq g49.symm)
  have f50 : Old Z n0 h49 := f20.ext E49
  have f51 : Arv Z h49 b1 k1 .byte (6 : Int32) (ys.map Value.int) (.int (0 : Int32)) := V21.ext E49
  have f52 : Fld Z h49 b49 "com/example/deferline/deferline/io/KeptState$Reader" "kept" "Ljava/util/List;" .null := D49 (Or.inr (hw _ (List.mem_of_getElem? (i := 36) rfl))) (ty := (.object "java/util/List")) (by decide)
  have f53 : Fld Z h49 b49 "com/example/deferline/deferline/io/KeptState$Reader" "bytes" "[B" .null := D49 (Or.inr (hw _ (List.mem_of_getElem? (i := 38) rfl))) (ty := (.array .byte)) (by decide)
  have f54 : Fld Z h49 b49 "com/example/deferline/deferline/io/KeptState$Reader" "position" "I" (.int (0 : Int32)) := D49 (Or.inl (hw _ (List.mem_of_getElem? (i := 40) rfl))) (ty := .int) (by decide)
  have f55 : Fld Z h49 b49 "com/example/deferline/deferline/io/KeptState$Reader" "end" "I" (.int (0 : Int32)) := D49 (Or.inr (hw _ (List.mem_of_getElem? (i := 42) rfl))) (ty := .int) (by decide)
  have Z49 : n0 ≤ h49.size := Nat.le_trans Z19 E49.1
  refine own_st st49 ?_
  show own_Go p e below K (T49.setTop (mkF m 123 #[.val (.int p1), .val (.int p2), .val (.int p3), .val (.int p4), .val (.int p5), .val (.ref b1), .val (.int (1 : Int32)), .val (.int ln), .val (.int p2), .val (.int (0 : Int32)), .unset, .unset] [(.ref b49)]))
  refine own_st (fun t k => XS.dup X49.here hx rfl (hb hby at_123) rfl rfl k) ?_
  show own_Go p e below K (T49.setTop (mkF m 124 #[.val (.int p1), .val (.int p2), .val (.int p3), .val (.int p4), .val (.int p5), .val (.ref b1), .val (.int (1 : Int32)), .val (.int ln), .val (.int p2), .val (.int (0 : Int32)), .unset, .unset] [(.ref b49), (.ref b49)]))
  refine own_st (fun t k => XS.aload X49.here hx rfl (hb hby at_124) rfl rfl k) ?_
  show own_Go p e below K (T49.setTop (mkF m 126 #[.val (.int p1), .val (.int p2), .val (.int p3), .val (.int p4), .val (.int p5), .val (.ref b1), .val (.int (1 : Int32)), .val (.int ln), .val (.int p2), .val (.int (0 : Int32)), .unset, .unset] [(.ref b1), (.ref b49), (.ref b49)]))
  refine own_st (fun t k => XS.iload X49.here hx rfl (hb hby at_126) rfl k) ?_
  show own_Go p e below K (T49.setTop (mkF m 128 #[.val (.int p1), .val (.int p2), .val (.int p3), .val (.int p4), .val (.int p5), .val (.ref b1), .val (.int (1 : Int32)), .val (.int ln), .val (.int p2), .val (.int (0 : Int32)), .unset, .unset] [(.int p2), (.ref b1), (.ref b49), (.ref b49)]))
  refine own_st (fun t k => XS.iload X49.here hx rfl (hb hby at_128) rfl k) ?_
  show own_Go p e below K (T49.setTop (mkF m 130 #[.val (.int p1), .val (.int p2), .val (.int p3), .val (.int p4), .val (.int p5), .val (.ref b1), .val (.int (1 : Int32)), .val (.int ln), .val (.int p2), .val (.int (0 : Int32)), .unset, .unset] [(.int ln), (.int p2), (.ref b1), (.ref b49), (.ref b49)]))
  obtain ⟨_, _, ⟨T56, L56, k56, n56⟩, -, X56, ⟨Lc56, hQ56, l56, y56, z56⟩, st56⟩ := X49.specialBack hx (y := (⟨"com/example/deferline/deferline/io/KeptState$Reader", "<init>", "([BII)V"⟩ : MethodName)) rfl hown (mvT hZ (hw _ (List.mem_of_getElem? (i := 5) rfl))) (mvT hZ (hw _ (List.mem_of_getElem? (i := 6) rfl))) (mvT hZ (hw _ (List.mem_of_getElem? (i := 7) rfl))) (by decide) (backOf (W := 1) (rm1 l Z a0 hw [] b49 b1 p2 ln (xd) h49 n0 Z49 g_b49 A49 f53 f54 f55 f52 f50 SD) hZ (hw _ (List.mem_of_getElem? (i := 7) rfl)) (hw _ (List.mem_of_getElem? (i := 4) rfl)) (by decide) (by decide)) (g := (mkF m 130 #[.val (.int p1), .val (.int p2), .val (.int p3), .val (.int p4), .val (.int p5), .val (.ref b1), .val (.int (1 : Int32)), .val (.int ln), .val (.int p2), .val (.int (0 : Int32)), .unset, .unset] [(.int ln), (.int p2), (.ref b1), (.ref b49), (.ref b49)])) rfl (by rw [hml]; rfl) (Steps.refl _) (a := b49) (argsL := [(.ref b1), (.int p2), (.int ln)]) (rest := [(.ref b49)]) (lenOf pd_0_0 rfl) rfl (by show 2 * 0 + _ ≤ _; exact Nat.le_of_eq rfl) (hb hby at_130) (fun _ _ => ⟨rfl, e49, (by decide : 2 + 1 ≤ _), (by decide : 10 + 3 ≤ _)⟩)
  dsimp only [Pt.U, Pt.locs, Pt.cells, Pt.slots] at X56 l56 y56 z56 st56 hQ56
  subst l56 y56 z56
  obtain ⟨rfl, N56q, Kq56, p56_0, p56_1, p56_2, p56_3⟩ := hQ56
  have N56 := Fr.app N19 N56q
  have f57 : Old Z n0 T56.heap := f50.keep Kq56 (allS (P := fun x => n0 ≤ x) g_b49 all0)
  have f58 : Arv Z T56.heap b1 k1 .byte (6 : Int32) (ys.map Value.int) (.int (0 : Int32)) := f51.keep Kq56 (ninS ne_b1_b49 nin0)
  have Z56 : n0 ≤ T56.heap.size := Nat.le_trans Z49 Kq56.1
  refine own_tr st56 ?_
  show own_Go p e below K (T56.setTop (mkF m 133 #[.val (.int p1), .val (.int p2), .val (.int p3), .val (.int p4), .val (.int p5), .val (.ref b1), .val (.int (1 : Int32)), .val (.int ln), .val (.int p2), .val (.int (0 : Int32)), .unset, .unset] [(.ref b49)]))
  refine own_st (fun t k => XS.astore X56.here hx rfl (hb hby at_133) rfl rfl (l' := #[.val (.int p1), .val (.int p2), .val (.int p3), .val (.int p4), .val (.int p5), .val (.ref b1), .val (.int (1 : Int32)), .val (.int ln), .val (.int p2), .val (.int (0 : Int32)), .val (.ref b49), .unset]) rfl k) ?_
  show own_Go p e below K (T56.setTop (mkF m 135 #[.val (.int p1), .val (.int p2), .val (.int p3), .val (.int p4), .val (.int p5), .val (.ref b1), .val (.int (1 : Int32)), .val (.int ln), .val (.int p2), .val (.int (0 : Int32)), .val (.ref b49), .unset] []))
  refine own_st (fun t k => XS.aload X56.here hx rfl (hb hby at_135) rfl rfl k) ?_
  show own_Go p e below K (T56.setTop (mkF m 137 #[.val (.int p1), .val (.int p2), .val (.int p3), .val (.int p4), .val (.int p5), .val (.ref b1), .val (.int (1 : Int32)), .val (.int ln), .val (.int p2), .val (.int (0 : Int32)), .val (.ref b49), .unset] [(.ref b49)]))
  obtain ⟨cq59, kq59, qv59a, qv59b, qv59c⟩ := isOf hZ rfl p56_0
  obtain ⟨_, _, ⟨T59, L59, k59, n59⟩, -, X59, ⟨Lc59, hQ59, l59, y59, z59⟩, st59⟩ := X56.virtualBack hx (y := (⟨"com/example/deferline/deferline/io/KeptState$Reader", "atEnd", "()Z"⟩ : MethodName)) (z := (⟨"com/example/deferline/deferline/io/KeptState$Reader", "atEnd", "()Z"⟩ : MethodName)) hown (mvT hZ (hw _ (List.mem_of_getElem? (i := 43) rfl))) (mvT hZ (hw _ (List.mem_of_getElem? (i := 44) rfl))) (notFace_of_selects (args := #[]) (mvT hZ (hw _ (List.mem_of_getElem? (i := 46) rfl)))) (mvT hZ (hw _ (List.mem_of_getElem? (i := 46) rfl))) (mvT hZ (hw _ (List.mem_of_getElem? (i := 45) rfl))) (by decide) (backOf (W := 0) (rm6 l Z a0 hw [] b49 (p2) ((p2 + ln)) T56.heap n0 Z56 p56_2 p56_3) hZ (hw _ (List.mem_of_getElem? (i := 47) rfl)) (hw _ (List.mem_of_getElem? (i := 4) rfl)) (by decide) (by decide)) qv59a qv59c (g := (mkF m 137 #[.val (.int p1), .val (.int p2), .val (.int p3), .val (.int p4), .val (.int p5), .val (.ref b1), .val (.int (1 : Int32)), .val (.int ln), .val (.int p2), .val (.int (0 : Int32)), .val (.ref b49), .unset] [(.ref b49)])) rfl (by rw [hml]; rfl) (Steps.refl _) (argsL := []) (rest := []) (lenOf pd_0_2 rfl) rfl (by show 2 * 0 + _ ≤ _; exact Nat.le_of_eq rfl) (hb hby at_137) (fun _ _ => ⟨rfl, rfl, (by decide : 3 + 0 ≤ _), (by decide : 13 + 0 ≤ _)⟩)
  dsimp only [Pt.U, Pt.locs, Pt.cells, Pt.slots] at X59 l59 y59 z59 st59 hQ59
  subst l59 y59 z59
  obtain ⟨r59, rfl, hr59, N59q, e59⟩ := hQ59
  have N59 := Fr.app N56 N59q
  refine own_tr st59 ?_
  show own_Go p e below K (T59.setTop (mkF m 140 #[.val (.int p1), .val (.int p2), .val (.int p3), .val (.int p4), .val (.int p5), .val (.ref b1), .val (.int (1 : Int32)), .val (.int ln), .val (.int p2), .val (.int (0 : Int32)), .val (.ref b49), .unset] [(.int r59)]))
  have J160 : ∀ (T' : State) (locs' : List Loc) (X' : Stand p l e room_1 s m #[(.int p1), (.int p2), (.int p3), (.int p4), (.int p5)] below meth c T' locs' 3 13) (e' : T'.heap = T56.heap) (N' : Fr n0 locs'), (True) → own_Go p e below K (T'.setTop (mkF m 160 #[.val (.int p1), .val (.int p2), .val (.int p3), .val (.int p4), .val (.int p5), .val (.ref b1), .val (.int (1 : Int32)), .val (.int ln), .val (.int p2), .val (.int (0 : Int32)), .val (.ref b49), .val (.int (1 : Int32))] [])) := by
    intro T60 locs60 X60 e60 N60  hj160
    refine own_st (fun t k => XS.iload X60.here hx rfl (hb hby at_160) rfl k) ?_
    show own_Go p e below K (T60.setTop (mkF m 162 #[.val (.int p1), .val (.int p2), .val (.int p3), .val (.int p4), .val (.int p5), .val (.ref b1), .val (.int (1 : Int32)), .val (.int ln), .val (.int p2), .val (.int (0 : Int32)), .val (.ref b49), .val (.int (1 : Int32))] [(.int (0 : Int32))]))
    refine own_st (fun t k => XS.iconst X60.here hx rfl (hb hby at_162) k) ?_
    show own_Go p e below K (T60.setTop (mkF m 163 #[.val (.int p1), .val (.int p2), .val (.int p3), .val (.int p4), .val (.int p5), .val (.ref b1), .val (.int (1 : Int32)), .val (.int ln), .val (.int p2), .val (.int (0 : Int32)), .val (.ref b49), .val (.int (1 : Int32))] [(.int (1 : Int32)), (.int (0 : Int32))]))
    refine own_st (fun t k => XS.icmpYes X60.here hx rfl (pc0 := 163) (pc' := 203) rfl (hb hby at_163) rfl (tlt (by decide : (0 : Int32) < (1 : Int32))).1 (by decide) (by decide) k) ?_
    show own_Go p e below K (T60.setTop (mkF m 203 #[.val (.int p1), .val (.int p2), .val (.int p3), .val (.int p4), .val (.int p5), .val (.ref b1), .val (.int (1 : Int32)), .val (.int ln), .val (.int p2), .val (.int (0 : Int32)), .val (.ref b49), .val (.int (1 : Int32))] []))
    refine own_st (fun t k => XS.iload X60.here hx rfl (hb hby at_203) rfl k) ?_
    show own_Go p e below K (T60.setTop (mkF m 205 #[.val (.int p1), .val (.int p2), .val (.int p3), .val (.int p4), .val (.int p5), .val (.ref b1), .val (.int (1 : Int32)), .val (.int ln), .val (.int p2), .val (.int (0 : Int32)), .val (.ref b49), .val (.int (1 : Int32))] [(.int (0 : Int32))]))
    refine own_st (fun t k => XS.iconst X60.here hx rfl (hb hby at_205) k) ?_
    show own_Go p e below K (T60.setTop (mkF m 206 #[.val (.int p1), .val (.int p2), .val (.int p3), .val (.int p4), .val (.int p5), .val (.ref b1), .val (.int (1 : Int32)), .val (.int ln), .val (.int p2), .val (.int (0 : Int32)), .val (.ref b49), .val (.int (1 : Int32))] [(.int (2 : Int32)), (.int (0 : Int32))]))
    refine own_st (fun t k => XS.icmpYes X60.here hx rfl (pc0 := 206) (pc' := 246) rfl (hb hby at_206) rfl (tlt (by decide : (0 : Int32) < (2 : Int32))).1 (by decide) (by decide) k) ?_
    show own_Go p e below K (T60.setTop (mkF m 246 #[.val (.int p1), .val (.int p2), .val (.int p3), .val (.int p4), .val (.int p5), .val (.ref b1), .val (.int (1 : Int32)), .val (.int ln), .val (.int p2), .val (.int (0 : Int32)), .val (.ref b49), .val (.int (1 : Int32))] []))
    refine own_st (fun t k => XS.iload X60.here hx rfl (hb hby at_246) rfl k) ?_
    show own_Go p e below K (T60.setTop (mkF m 248 #[.val (.int p1), .val (.int p2), .val (.int p3), .val (.int p4), .val (.int p5), .val (.ref b1), .val (.int (1 : Int32)), .val (.int ln), .val (.int p2), .val (.int (0 : Int32)), .val (.ref b49), .val (.int (1 : Int32))] [(.int (0 : Int32))]))
    refine own_st (fun t k => XS.iconst X60.here hx rfl (hb hby at_248) k) ?_
    show own_Go p e below K (T60.setTop (mkF m 249 #[.val (.int p1), .val (.int p2), .val (.int p3), .val (.int p4), .val (.int p5), .val (.ref b1), .val (.int (1 : Int32)), .val (.int ln), .val (.int p2), .val (.int (0 : Int32)), .val (.ref b49), .val (.int (1 : Int32))] [(.int (3 : Int32)), (.int (0 : Int32))]))
    refine own_st (fun t k => XS.icmpYes X60.here hx rfl (pc0 := 249) (pc' := 289) rfl (hb hby at_249) rfl (tlt (by decide : (0 : Int32) < (3 : Int32))).1 (by decide) (by decide) k) ?_
    show own_Go p e below K (T60.setTop (mkF m 289 #[.val (.int p1), .val (.int p2), .val (.int p3), .val (.int p4), .val (.int p5), .val (.ref b1), .val (.int (1 : Int32)), .val (.int ln), .val (.int p2), .val (.int (0 : Int32)), .val (.ref b49), .val (.int (1 : Int32))] []))
    refine own_st (fun t k => XS.iload X60.here hx rfl (hb hby at_289) rfl k) ?_
    show own_Go p e below K (T60.setTop (mkF m 291 #[.val (.int p1), .val (.int p2), .val (.int p3), .val (.int p4), .val (.int p5), .val (.ref b1), .val (.int (1 : Int32)), .val (.int ln), .val (.int p2), .val (.int (0 : Int32)), .val (.ref b49), .val (.int (1 : Int32))] [(.int (1 : Int32))]))
    obtain ⟨fs, hr, hrun, hended, hW, hsame⟩ := X60.leave (v := some (.int (nar .boolean (1 : Int32)))) (fun h => by rw [Bd.returns] at h; cases h)
    refine ⟨_, retN X60 hx (t := .boolean) Bd.returns (by simp) (hb hby at_291) hr, fin _ _ _ hrun hended ?_ ⟨⟨_, rfl⟩, hW, hsame.mono (by decide) (by decide)⟩⟩
    show Q0 Z p1 p2 p3 p4 p5 xd h0 n0 _ T60.heap _
    rw [e60]
    exact ⟨rfl, N60⟩
  refine own_st (fun t k => XS.iload X59.here hx rfl (hb hby at_140) rfl k) ?_
  show own_Go p e below K (T59.setTop (mkF m 142 #[.val (.int p1), .val (.int p2), .val (.int p3), .val (.int p4), .val (.int p5), .val (.ref b1), .val (.int (1 : Int32)), .val (.int ln), .val (.int p2), .val (.int (0 : Int32)), .val (.ref b49), .unset] [(.int ln), (.int r59)]))
  by_cases hc142 : ln = (0 : Int32)
  · refine own_st (fun t k => XS.ifNo X59.here hx rfl (hb hby at_142) rfl ((if0 _ _).trans (teq hc142).2) k) ?_
    show own_Go p e below K (T59.setTop (mkF m 145 #[.val (.int p1), .val (.int p2), .val (.int p3), .val (.int p4), .val (.int p5), .val (.ref b1), .val (.int (1 : Int32)), .val (.int ln), .val (.int p2), .val (.int (0 : Int32)), .val (.ref b49), .unset] [(.int r59)]))
    refine own_st (fun t k => XS.iconst X59.here hx rfl (hb hby at_145) k) ?_
    show own_Go p e below K (T59.setTop (mkF m 146 #[.val (.int p1), .val (.int p2), .val (.int p3), .val (.int p4), .val (.int p5), .val (.ref b1), .val (.int (1 : Int32)), .val (.int ln), .val (.int p2), .val (.int (0 : Int32)), .val (.ref b49), .unset] [(.int (1 : Int32)), (.int r59)]))
    refine own_st (fun t k => XS.goto X59.here hx rfl (pc0 := 146) (pc' := 150) rfl (hb hby at_146) (by decide) (by decide) k) ?_
    show own_Go p e below K (T59.setTop (mkF m 150 #[.val (.int p1), .val (.int p2), .val (.int p3), .val (.int p4), .val (.int p5), .val (.ref b1), .val (.int (1 : Int32)), .val (.int ln), .val (.int p2), .val (.int (0 : Int32)), .val (.ref b49), .unset] [(.int (1 : Int32)), (.int r59)]))
    refine own_st (fun t k => XS.icmpNo X59.here hx rfl (hb hby at_150) rfl (teq (own_B.one hr59 ((own_end0 _ _).mpr hc142) : r59 = (1 : Int32))).2 k) ?_
    show own_Go p e below K (T59.setTop (mkF m 153 #[.val (.int p1), .val (.int p2), .val (.int p3), .val (.int p4), .val (.int p5), .val (.ref b1), .val (.int (1 : Int32)), .val (.int ln), .val (.int p2), .val (.int (0 : Int32)), .val (.ref b49), .unset] []))
    refine own_st (fun t k => XS.iconst X59.here hx rfl (hb hby at_153) k) ?_
    show own_Go p e below K (T59.setTop (mkF m 154 #[.val (.int p1), .val (.int p2), .val (.int p3), .val (.int p4), .val (.int p5), .val (.ref b1), .val (.int (1 : Int32)), .val (.int ln), .val (.int p2), .val (.int (0 : Int32)), .val (.ref b49), .unset] [(.int (1 : Int32))]))
    refine own_st (fun t k => XS.goto X59.here hx rfl (pc0 := 154) (pc' := 158) rfl (hb hby at_154) (by decide) (by decide) k) ?_
    show own_Go p e below K (T59.setTop (mkF m 158 #[.val (.int p1), .val (.int p2), .val (.int p3), .val (.int p4), .val (.int p5), .val (.ref b1), .val (.int (1 : Int32)), .val (.int ln), .val (.int p2), .val (.int (0 : Int32)), .val (.ref b49), .unset] [(.int (1 : Int32))]))
    refine own_st (fun t k => XS.istore X59.here hx rfl (hb hby at_158) rfl (l' := #[.val (.int p1), .val (.int p2), .val (.int p3), .val (.int p4), .val (.int p5), .val (.ref b1), .val (.int (1 : Int32)), .val (.int ln), .val (.int p2), .val (.int (0 : Int32)), .val (.ref b49), .val (.int (1 : Int32))]) rfl k) ?_
    show own_Go p e below K (T59.setTop (mkF m 160 #[.val (.int p1), .val (.int p2), .val (.int p3), .val (.int p4), .val (.int p5), .val (.ref b1), .val (.int (1 : Int32)), .val (.int ln), .val (.int p2), .val (.int (0 : Int32)), .val (.ref b49), .val (.int (1 : Int32))] []))
    exact J160 T59 _ X59 e59 N59  trivial
  refine own_st (fun t k => XS.ifYes X59.here hx rfl (pc0 := 142) (pc' := 149) rfl (hb hby at_142) rfl ((if0 _ _).trans (feq hc142).2) (by decide) (by decide) k) ?_
  show own_Go p e below K (T59.setTop (mkF m 149 #[.val (.int p1), .val (.int p2), .val (.int p3), .val (.int p4), .val (.int p5), .val (.ref b1), .val (.int (1 : Int32)), .val (.int ln), .val (.int p2), .val (.int (0 : Int32)), .val (.ref b49), .unset] [(.int r59)]))
  refine own_st (fun t k => XS.iconst X59.here hx rfl (hb hby at_149) k) ?_
  show own_Go p e below K (T59.setTop (mkF m 150 #[.val (.int p1), .val (.int p2), .val (.int p3), .val (.int p4), .val (.int p5), .val (.ref b1), .val (.int (1 : Int32)), .val (.int ln), .val (.int p2), .val (.int (0 : Int32)), .val (.ref b49), .unset] [(.int (0 : Int32)), (.int r59)]))
  refine own_st (fun t k => XS.icmpNo X59.here hx rfl (hb hby at_150) rfl (teq (own_B.zero hr59 (fun q => hc142 ((own_end0 _ _).mp q)) : r59 = (0 : Int32))).2 k) ?_
  show own_Go p e below K (T59.setTop (mkF m 153 #[.val (.int p1), .val (.int p2), .val (.int p3), .val (.int p4), .val (.int p5), .val (.ref b1), .val (.int (1 : Int32)), .val (.int ln), .val (.int p2), .val (.int (0 : Int32)), .val (.ref b49), .unset] []))
  refine own_st (fun t k => XS.iconst X59.here hx rfl (hb hby at_153) k) ?_
  show own_Go p e below K (T59.setTop (mkF m 154 #[.val (.int p1), .val (.int p2), .val (.int p3), .val (.int p4), .val (.int p5), .val (.ref b1), .val (.int (1 : Int32)), .val (.int ln), .val (.int p2), .val (.int (0 : Int32)), .val (.ref b49), .unset] [(.int (1 : Int32))]))
  refine own_st (fun t k => XS.goto X59.here hx rfl (pc0 := 154) (pc' := 158) rfl (hb hby at_154) (by decide) (by decide) k) ?_
  show own_Go p e below K (T59.setTop (mkF m 158 #[.val (.int p1), .val (.int p2), .val (.int p3), .val (.int p4), .val (.int p5), .val (.ref b1), .val (.int (1 : Int32)), .val (.int ln), .val (.int p2), .val (.int (0 : Int32)), .val (.ref b49), .unset] [(.int (1 : Int32))]))
  refine own_st (fun t k => XS.istore X59.here hx rfl (hb hby at_158) rfl (l' := #[.val (.int p1), .val (.int p2), .val (.int p3), .val (.int p4), .val (.int p5), .val (.ref b1), .val (.int (1 : Int32)), .val (.int ln), .val (.int p2), .val (.int (0 : Int32)), .val (.ref b49), .val (.int (1 : Int32))]) rfl k) ?_
  show own_Go p e below K (T59.setTop (mkF m 160 #[.val (.int p1), .val (.int p2), .val (.int p3), .val (.int p4), .val (.int p5), .val (.ref b1), .val (.int (1 : Int32)), .val (.int ln), .val (.int p2), .val (.int (0 : Int32)), .val (.ref b49), .val (.int (1 : Int32))] []))
  exact J160 T59 _ X59 e59 N59  trivial
set_option maxRecDepth 65536 in
set_option maxHeartbeats 40000000 in
theorem comes_1 {Post : Tables → Env → Array Value → State → Outcome → State → Prop} (hpost : ∀ tb e args s v u, (limb_1_1.after args s (.returned v) u = true ∧ limb_1_2.after args s (.returned v) u = true ∧ True) → FrameEnd s (.returned v) u (Jvm.fieldLocs frame_1_writes args s ++ Jvm.arrayLocs frame_1_arrays args s ++ Jvm.staticLocs frame_1_statics s) 16 128 → Post tb e args s (.returned v) u) :
    ArmFor flags0 classFile x code maxLocals ret World_1 tables_1 room_1 Calls_1 rest_1 Pre_1 Post := by
  intro l hfl _ _ p e ha hc hk s m args below hf hA hF happ hP
  obtain ⟨hcalls, hrest, hpre⟩ := hP
  obtain ⟨-, -, -, hnamed, -, -, -, hat⟩ := (Spec.applies_iff hf).mp happ
  obtain ⟨hg, hn⟩ := and_e (Cond.before_iff.mp (show (Jvm.Cond.and given_1 narrow_1).before args s = true from hpre))
  obtain ⟨g1, g2⟩ := and_e hg
  obtain ⟨g3, g4⟩ := and_e g2
  obtain ⟨g5, g6⟩ := and_e g4
  obtain ⟨g7, g8⟩ := and_e g6
  obtain ⟨g9, g10⟩ := and_e g8
  obtain ⟨w0, w1, w2, w3, w4, rfl⟩ : ∃ w0 w1 w2 w3 w4 : Value, args = #[w0, w1, w2, w3, w4] := by
    have hs : args.size = 5 := by simpa [Cond.value, given_1] using g1
    obtain ⟨L⟩ := args
    match L, hs with
    | [w0, w1, w2, w3, w4], _ => exact ⟨w0, w1, w2, w3, w4, rfl⟩
  have hw := fun d (hd : d ∈ tables_1) => atoms_spec (ws := Jvm.Cond.code x code maxLocals ret :: tables_1) hat d (List.mem_cons_of_mem _ hd)
  have hfit : Fit s := fun {y c} hc i hi => by
    obtain ⟨ha, rfl⟩ := Array.getElem?_eq_some_iff.mp hc
    have q := List.all_eq_true.mp ((Array.all_eq_true_iff_forall_mem.mp hF) _ (Array.getElem_mem ha)) i (List.mem_range.mpr hi)
    simpa [Array.getElem?_eq_getElem hi] using q
  obtain ⟨hsets, hown0⟩ := atoms_of _ (rest_1_c_eq ▸ (show rest_1_c.before _ s = true from hrest))
  have hr0 := Cond.before_iff.mp hown0
  obtain ⟨i0, ei0⟩ := is_v g3
  obtain rfl : w0 = (.int i0) := Option.some.inj ei0
  obtain ⟨i1, ei1⟩ := is_v g5
  obtain rfl : w1 = (.int i1) := Option.some.inj ei1
  obtain ⟨i2, ei2⟩ := is_v g7
  obtain rfl : w2 = (.int i2) := Option.some.inj ei2
  obtain ⟨i3, ei3⟩ := is_v g9
  obtain rfl : w3 = (.int i3) := Option.some.inj ei3
  obtain ⟨i4, ei4⟩ := is_v g10
  obtain rfl : w4 = (.int i4) := Option.some.inj ei4
  obtain ⟨xd, evD⟩ := arr_v (Cond.before_iff.mp (hsets _ (List.mem_of_getElem? (i := 6) rfl)))
  have SD := Sta.start evD (Or.inr ⟨(hw _ (List.mem_of_getElem? (i := 13) rfl)), hsets _ (List.mem_of_getElem? (i := 2) rfl)⟩)
  obtain ⟨n, o, h1, h2, h3, _, L, rfl, ⟨rfl, N⟩, hq⟩ := rm0 l s _ hw tables_1 i0 i1 i2 i3 i4 xd s.heap s.heap.size (Nat.le_refl _) (Old.start s) SD p e ha hc hk s m _ below hf ((Spec.applies_iff_loose hf).mp happ).1 ⟨rfl, State.Warmed39.refl s, rfl⟩ trivial
  refine ⟨n, _, h1, h2, h3, hpost _ _ _ _ _ _ ⟨Cond.after_iff.mpr rfl, Cond.after_iff.mpr (eq_i res_at (Term.int_eval (1)) rfl), trivial⟩ ⟨hq.1, hq.2.1, (hq.2.2.sift fun y hy => Or.inr (N y hy)).mono (by decide) (by decide)⟩⟩
theorem main_1_1 : Claimed_1_1 := comes_1 fun _ _ _ _ _ _ h hF => ⟨h.1, hF⟩
theorem main_1_2 : Claimed_1_2 := comes_1 fun _ _ _ _ _ _ h hF => ⟨h.2.1, hF⟩
end Jvm.Pilot.@@N@@
namespace Jvm.Pilot.@@N@@
open Jvm Jvm.ClassFile Sem Op Lib Jvm.Free Jvm.Stand Jvm.Pilot.@@N@@.Jvm.D
/-! MADE BY PROGRAM (witnessworld.py) out of the Statement's table words and the real class files: 18 classes; the members and pool entries that the words name. The judged class is class 1, her method 1. -/
namespace start1
open Jvm.ClassFile
def u (s : String) : CpInfo := .utf8 (stringToUtf16 s)
/-- a pool by its gaps: so many unusable entries, then the entry; so many at the end -/
def gap : Nat → List CpInfo → List CpInfo
  | 0, r => r
  | n + 1, r => .unusable :: gap n r
def poolList (es : List (Nat × CpInfo)) (last : Nat) : List CpInfo := es.foldr (fun e r => gap e.1 (e.2 :: r)) (gap last [])
def pool (es : List (Nat × CpInfo)) (last : Nat) : Array CpInfo := ⟨poolList es last⟩
def fileOf (pool : Array CpInfo) (this : Nat) (attrs : Array Attribute := #[]) (ms : Array MethodInfo := #[]) (fl : Nat := 33) (sup : Nat := 0) (ifs : Array Nat := #[]) (fds : Array FieldInfo := #[]) : ClassFile where
  minorVersion := 0
  majorVersion := 65
  constantPool := pool
  accessFlags := fl
  thisClass := this
  superClass := sup
  interfaces := ifs
  fields := fds
  methods := ms
  attributes := attrs
def plain (name : String) (sup : Option ClassId) : Class where
  name := name
  kind := .ordinary
  loader := none
  accessFlags := 33
  super := sup
  interfaces := #[]
  cf := none
  fields := #[]
  methods := #[]
  instanceTypes := #[]
  staticTypes := #[]
  resolved := #[]
  callSites := []
  init := .initialized
  statics := none
  mirror := none

def pool0 : Array CpInfo := pool [(5, u "<init>"), (0, u "()V"), (1, .class_ 10), (1, u "java/lang/Object")] 113

def k0c0 : Code := { maxStack := 0, maxLocals := 1, code := object_method_1_code, exceptionTable := #[], attributes := #[] }
def k0m0 : Method := { name := "<init>", desc := "()V", sig := { parameters := [], returnType := none }, accessFlags := 1, code := some k0c0 }
/-- java/lang/Object -/
def k0 : Class := { plain "java/lang/Object" none with
  accessFlags := 33
  interfaces := #[]
  cf := some (fileOf pool0 8 #[] #[{ accessFlags := 1, nameIndex := 5, descriptorIndex := 6, attributes := #[] }] 33 0 #[] #[])
  fields := #[]
  methods := #[k0m0]
  instanceTypes := #[]
  staticTypes := #[]
  resolved := Array.replicate 124 none
  statics := none }

def pool1 : Array CpInfo := pool [(2, .class_ 4), (1, u "java/lang/Object"), (0, u "<init>"), (0, u "()V"), (0, .integer 2147483647), (0, .class_ 9), (0, u "com/example/deferline/deferline/io/KeptState$Reader"), (0, .methodref 8 11), (0, .nameAndType 5 12), (0, u "([BII)V"), (0, .methodref 8 14), (0, .nameAndType 15 16), (0, u "atEnd"), (0, u "()Z"), (0, .methodref 8 18), (0, .nameAndType 19 16), (0, u "flag"), (0, .class_ 21), (0, u "com/example/deferline/deferline/io/ReaderAtEndPinLaw"), (2, u "law"), (0, u "(IIIII)Z")] 12

def k1m0 : Method := { name := "<init>", desc := "()V", sig := { parameters := [], returnType := none }, accessFlags := 1, code := none }
def k1c1 : Code := { maxStack := 5, maxLocals := 12, code := code, exceptionTable := #[], attributes := #[] }
def k1m1 : Method := { name := "law", desc := "(IIIII)Z", sig := { parameters := [.int, .int, .int, .int, .int], returnType := some .boolean }, accessFlags := 9, code := some k1c1 }
/-- com/example/deferline/deferline/io/ReaderAtEndPinLaw -/
def k1 : Class := { plain "com/example/deferline/deferline/io/ReaderAtEndPinLaw" (some 0) with
  accessFlags := 49
  interfaces := #[]
  cf := some (fileOf pool1 20 #[] #[{ accessFlags := 1, nameIndex := 5, descriptorIndex := 6, attributes := #[] }, { accessFlags := 9, nameIndex := 24, descriptorIndex := 25, attributes := #[] }] 49 2 #[] #[])
  fields := #[]
  methods := #[k1m0, k1m1]
  instanceTypes := #[]
  staticTypes := #[]
  resolved := Array.replicate 38 none
  statics := none }

def pool2 : Array CpInfo := pool [(1, .class_ 2), (0, u "com/example/deferline/deferline/io/KeptState"), (0, .methodref 4 5), (0, .class_ 6), (0, .nameAndType 7 8), (0, u "java/lang/Object"), (0, u "<init>"), (0, u "()V"), (0, .class_ 10), (0, u "java/util/ArrayList"), (0, .methodref 9 5), (0, .fieldref 13 14), (0, .class_ 15), (0, .nameAndType 16 17), (0, u "com/example/deferline/deferline/io/KeptState$Reader"), (0, u "kept"), (0, u "Ljava/util/List;"), (0, .fieldref 13 19), (0, .nameAndType 20 21), (0, u "bytes"), (0, u "[B"), (0, .fieldref 13 23), (0, .nameAndType 24 25), (0, u "position"), (0, u "I"), (0, .fieldref 13 27), (0, .nameAndType 28 25), (0, u "end"), (0, .methodref 13 30), (0, .nameAndType 31 32), (0, u "next"), (0, u "()B"), (164, u "([BII)V"), (4, u "flag"), (0, u "()Z"), (9, u "atEnd")] 57

def k2c0 : Code := { maxStack := 3, maxLocals := 4, code := prog_37_method_1_code, exceptionTable := #[], attributes := #[] }
def k2m0 : Method := { name := "<init>", desc := "([BII)V", sig := { parameters := [(.array .byte), .int, .int], returnType := none }, accessFlags := 1, code := some k2c0 }
def k2c1 : Code := { maxStack := 3, maxLocals := 2, code := prog_37_method_4_code, exceptionTable := #[], attributes := #[] }
def k2m1 : Method := { name := "flag", desc := "()Z", sig := { parameters := [], returnType := some .boolean }, accessFlags := 1, code := some k2c1 }
def k2c2 : Code := { maxStack := 2, maxLocals := 1, code := prog_37_method_10_code, exceptionTable := #[], attributes := #[] }
def k2m2 : Method := { name := "atEnd", desc := "()Z", sig := { parameters := [], returnType := some .boolean }, accessFlags := 1, code := some k2c2 }
def k2c3 : Code := { maxStack := 5, maxLocals := 1, code := prog_37_method_13_code, exceptionTable := #[], attributes := #[] }
def k2m3 : Method := { name := "next", desc := "()B", sig := { parameters := [], returnType := some .byte }, accessFlags := 2, code := some k2c3 }
/-- com/example/deferline/deferline/io/KeptState$Reader -/
def k2 : Class := { plain "com/example/deferline/deferline/io/KeptState$Reader" (some 0) with
  accessFlags := 33
  interfaces := #[]
  cf := some (fileOf pool2 13 #[.nestHost 1] #[{ accessFlags := 1, nameIndex := 7, descriptorIndex := 197, attributes := #[] }, { accessFlags := 1, nameIndex := 202, descriptorIndex := 203, attributes := #[] }, { accessFlags := 1, nameIndex := 213, descriptorIndex := 203, attributes := #[] }, { accessFlags := 2, nameIndex := 31, descriptorIndex := 32, attributes := #[] }] 33 4 #[] #[{ accessFlags := 18, nameIndex := 20, descriptorIndex := 21, attributes := #[] }, { accessFlags := 18, nameIndex := 28, descriptorIndex := 25, attributes := #[] }, { accessFlags := 2, nameIndex := 24, descriptorIndex := 25, attributes := #[] }, { accessFlags := 18, nameIndex := 16, descriptorIndex := 17, attributes := #[] }])
  fields := #[{ name := "bytes", type := (.array .byte), accessFlags := 18, slot := 0, constantValue := 0 }, { name := "end", type := .int, accessFlags := 18, slot := 1, constantValue := 0 }, { name := "position", type := .int, accessFlags := 2, slot := 2, constantValue := 0 }, { name := "kept", type := (.object "java/util/List"), accessFlags := 18, slot := 3, constantValue := 0 }]
  methods := #[k2m0, k2m1, k2m2, k2m3]
  instanceTypes := #[(.array .byte), .int, .int, (.object "java/util/List")]
  staticTypes := #[]
  resolved := Array.replicate 271 none
  statics := none }

def pool3 : Array CpInfo := pool [(8, .class_ 10), (1, u "java/lang/Iterable"), (24, .class_ 36), (0, u "java/lang/Object")] 25

/-- java/lang/Iterable -/
def k3 : Class := { plain "java/lang/Iterable" (some 0) with
  accessFlags := 1537
  interfaces := #[]
  cf := some (fileOf pool3 8 #[] #[] 1537 35 #[] #[])
  fields := #[]
  methods := #[]
  instanceTypes := #[]
  staticTypes := #[]
  resolved := Array.replicate 62 none
  statics := none }

def pool4 : Array CpInfo := pool [(10, .class_ 12), (1, u "java/util/Collection"), (47, .class_ 61), (0, u "java/lang/Object"), (0, .class_ 63), (0, u "java/lang/Iterable")] 51

/-- java/util/Collection -/
def k4 : Class := { plain "java/util/Collection" (some 0) with
  accessFlags := 1537
  interfaces := #[3]
  cf := some (fileOf pool4 10 #[] #[] 1537 60 #[62] #[])
  fields := #[]
  methods := #[]
  instanceTypes := #[]
  staticTypes := #[]
  resolved := Array.replicate 115 none
  statics := none }

def pool5 : Array CpInfo := pool [(1, .methodref 2 3), (0, .class_ 4), (0, .nameAndType 5 6), (0, u "java/lang/Object"), (0, u "<init>"), (0, u "()V"), (1, .class_ 10), (1, u "java/util/AbstractCollection"), (66, .class_ 78), (0, u "java/util/Collection")] 81

def k5c0 : Code := { maxStack := 1, maxLocals := 1, code := jdk_22_method_1_code, exceptionTable := #[], attributes := #[] }
def k5m0 : Method := { name := "<init>", desc := "()V", sig := { parameters := [], returnType := none }, accessFlags := 4, code := some k5c0 }
/-- java/util/AbstractCollection -/
def k5 : Class := { plain "java/util/AbstractCollection" (some 0) with
  accessFlags := 1057
  interfaces := #[4]
  cf := some (fileOf pool5 8 #[] #[{ accessFlags := 4, nameIndex := 5, descriptorIndex := 6, attributes := #[] }] 1057 2 #[77] #[])
  fields := #[]
  methods := #[k5m0]
  instanceTypes := #[]
  staticTypes := #[]
  resolved := Array.replicate 160 none
  statics := none }

def pool6 : Array CpInfo := pool [(8, .class_ 10), (1, u "java/util/SequencedCollection"), (15, .class_ 27), (0, u "java/lang/Object"), (0, .class_ 29), (0, u "java/util/Collection")] 27

/-- java/util/SequencedCollection -/
def k6 : Class := { plain "java/util/SequencedCollection" (some 0) with
  accessFlags := 1537
  interfaces := #[4]
  cf := some (fileOf pool6 8 #[] #[] 1537 26 #[28] #[])
  fields := #[]
  methods := #[]
  instanceTypes := #[]
  staticTypes := #[]
  resolved := Array.replicate 57 none
  statics := none }

def pool7 : Array CpInfo := pool [(8, .class_ 10), (1, u "java/util/List"), (92, .class_ 104), (0, u "java/lang/Object"), (15, .class_ 121), (0, u "java/util/SequencedCollection")] 129

/-- java/util/List -/
def k7 : Class := { plain "java/util/List" (some 0) with
  accessFlags := 1537
  interfaces := #[6]
  cf := some (fileOf pool7 8 #[] #[] 1537 103 #[120] #[])
  fields := #[]
  methods := #[]
  instanceTypes := #[]
  staticTypes := #[]
  resolved := Array.replicate 251 none
  statics := none }

def pool8 : Array CpInfo := pool [(1, .methodref 2 3), (0, .class_ 4), (0, .nameAndType 5 6), (0, u "java/util/AbstractCollection"), (0, u "<init>"), (0, u "()V"), (0, .fieldref 8 9), (0, .class_ 10), (0, .nameAndType 11 12), (0, u "java/util/AbstractList"), (0, u "modCount"), (0, u "I"), (64, .class_ 78), (0, u "java/util/AbstractList$Itr"), (3, .class_ 83), (0, u "java/util/AbstractList$ListItr"), (9, .class_ 94), (0, u "java/util/AbstractList$RandomAccessSubList"), (3, .class_ 99), (0, u "java/util/AbstractList$SubList"), (33, .class_ 134), (0, u "java/util/List"), (73, .class_ 209), (0, u "java/util/AbstractList$SubList$1"), (0, .class_ 211), (0, u "java/util/AbstractList$RandomAccessSpliterator")] 6

def k8c0 : Code := { maxStack := 2, maxLocals := 1, code := jdk_39_method_1_code, exceptionTable := #[], attributes := #[] }
def k8m0 : Method := { name := "<init>", desc := "()V", sig := { parameters := [], returnType := none }, accessFlags := 4, code := some k8c0 }
/-- java/util/AbstractList -/
def k8 : Class := { plain "java/util/AbstractList" (some 5) with
  accessFlags := 1057
  interfaces := #[7]
  cf := some (fileOf pool8 8 #[.nestMembers #[93, 98, 208, 210, 82, 77]] #[{ accessFlags := 4, nameIndex := 5, descriptorIndex := 6, attributes := #[] }] 1057 2 #[133] #[{ accessFlags := 132, nameIndex := 11, descriptorIndex := 12, attributes := #[] }])
  fields := #[{ name := "modCount", type := .int, accessFlags := 132, slot := 0, constantValue := 0 }]
  methods := #[k8m0]
  instanceTypes := #[.int]
  staticTypes := #[]
  resolved := Array.replicate 218 none
  statics := none }

def pool9 : Array CpInfo := pool [(1, .class_ 2), (0, u "java/util/RandomAccess"), (0, .class_ 4), (0, u "java/lang/Object")] 2

/-- java/util/RandomAccess -/
def k9 : Class := { plain "java/util/RandomAccess" (some 0) with
  accessFlags := 1537
  interfaces := #[]
  cf := some (fileOf pool9 1 #[] #[] 1537 3 #[] #[])
  fields := #[]
  methods := #[]
  instanceTypes := #[]
  staticTypes := #[]
  resolved := Array.replicate 7 none
  statics := none }

def pool10 : Array CpInfo := pool [(1, .class_ 2), (0, u "java/lang/Cloneable"), (0, .class_ 4), (0, u "java/lang/Object")] 2

/-- java/lang/Cloneable -/
def k10 : Class := { plain "java/lang/Cloneable" (some 0) with
  accessFlags := 1537
  interfaces := #[]
  cf := some (fileOf pool10 1 #[] #[] 1537 3 #[] #[])
  fields := #[]
  methods := #[]
  instanceTypes := #[]
  staticTypes := #[]
  resolved := Array.replicate 7 none
  statics := none }

def pool11 : Array CpInfo := pool [(1, .class_ 2), (0, u "java/io/Serializable"), (0, .class_ 4), (0, u "java/lang/Object")] 2

/-- java/io/Serializable -/
def k11 : Class := { plain "java/io/Serializable" (some 0) with
  accessFlags := 1537
  interfaces := #[]
  cf := some (fileOf pool11 1 #[] #[] 1537 3 #[] #[])
  fields := #[]
  methods := #[]
  instanceTypes := #[]
  staticTypes := #[]
  resolved := Array.replicate 7 none
  statics := none }

def pool12 : Array CpInfo := pool [(1, .methodref 2 3), (0, .class_ 4), (0, .nameAndType 5 6), (0, u "java/util/AbstractList"), (0, u "<init>"), (0, u "()V"), (2, .fieldref 10 11), (0, .class_ 12), (0, .nameAndType 13 14), (0, u "java/util/ArrayList"), (0, u "elementData"), (0, u "[Ljava/lang/Object;"), (2, u "EMPTY_ELEMENTDATA"), (21, .fieldref 10 40), (0, .nameAndType 41 14), (0, u "DEFAULTCAPACITY_EMPTY_ELEMENTDATA"), (8, u "size"), (0, u "I"), (96, .class_ 149), (0, u "java/util/List"), (112, .class_ 263), (0, u "java/util/ArrayList$ListItr"), (3, .class_ 268), (0, u "java/util/ArrayList$Itr"), (7, .class_ 277), (0, u "java/util/ArrayList$SubList"), (12, .class_ 291), (0, u "java/util/ArrayList$ArrayListSpliterator"), (37, .class_ 330), (0, u "java/util/RandomAccess"), (0, .class_ 332), (0, u "java/lang/Cloneable"), (0, .class_ 334), (0, u "java/io/Serializable"), (0, u "serialVersionUID"), (0, u "J"), (3, u "DEFAULT_CAPACITY"), (159, .class_ 501), (0, u "java/util/ArrayList$SubList$2"), (0, .class_ 503), (0, u "java/util/ArrayList$SubList$1")] 5

def k12c0 : Code := { maxStack := 2, maxLocals := 1, code := jdk_38_method_2_code, exceptionTable := #[], attributes := #[] }
def k12m0 : Method := { name := "<init>", desc := "()V", sig := { parameters := [], returnType := none }, accessFlags := 1, code := some k12c0 }
/-- java/util/ArrayList -/
def k12 : Class := { plain "java/util/ArrayList" (some 8) with
  accessFlags := 33
  interfaces := #[7, 9, 10, 11]
  cf := some (fileOf pool12 10 #[.nestMembers #[290, 276, 500, 502, 262, 267]] #[{ accessFlags := 1, nameIndex := 5, descriptorIndex := 6, attributes := #[] }] 33 2 #[148, 329, 331, 333] #[{ accessFlags := 26, nameIndex := 335, descriptorIndex := 336, attributes := #[] }, { accessFlags := 26, nameIndex := 340, descriptorIndex := 51, attributes := #[] }, { accessFlags := 26, nameIndex := 17, descriptorIndex := 14, attributes := #[] }, { accessFlags := 26, nameIndex := 41, descriptorIndex := 14, attributes := #[] }, { accessFlags := 128, nameIndex := 13, descriptorIndex := 14, attributes := #[] }, { accessFlags := 2, nameIndex := 50, descriptorIndex := 51, attributes := #[] }])
  fields := #[{ name := "serialVersionUID", type := .long, accessFlags := 26, slot := 0, constantValue := 0 }, { name := "DEFAULT_CAPACITY", type := .int, accessFlags := 26, slot := 1, constantValue := 0 }, { name := "EMPTY_ELEMENTDATA", type := (.array (.object "java/lang/Object")), accessFlags := 26, slot := 2, constantValue := 0 }, { name := "DEFAULTCAPACITY_EMPTY_ELEMENTDATA", type := (.array (.object "java/lang/Object")), accessFlags := 26, slot := 3, constantValue := 0 }, { name := "elementData", type := (.array (.object "java/lang/Object")), accessFlags := 128, slot := 1, constantValue := 0 }, { name := "size", type := .int, accessFlags := 2, slot := 2, constantValue := 0 }]
  methods := #[k12m0]
  instanceTypes := #[.int, (.array (.object "java/lang/Object")), .int]
  staticTypes := #[.long, .int, (.array (.object "java/lang/Object")), (.array (.object "java/lang/Object"))]
  resolved := Array.replicate 509 none
  statics := some 0 }

/-- the primitive byte -/
def k13 : Class := { plain "byte" none with kind := .primitive 'B', accessFlags := 0x411 }
/-- [B -/
def k14 : Class := { plain "[B" (some 0) with kind := .array 13 .byte, interfaces := #[10, 11], accessFlags := 1041 }

/-- the primitive int -/
def k15 : Class := { plain "int" none with kind := .primitive 'I', accessFlags := 0x411 }
/-- [I -/
def k16 : Class := { plain "[I" (some 0) with kind := .array 15 .int, interfaces := #[10, 11], accessFlags := 1041 }

/-- [Ljava/lang/Object; -/
def k17 : Class := { plain "[Ljava/lang/Object;" (some 0) with kind := .array 0 (.object "java/lang/Object"), interfaces := #[10, 11], accessFlags := 1041 }

def heap : Heap := #[{ cls := 12, slots := #[.long 0, .int 0, .ref 1, .ref 2], vm := .statics 12 },
  { cls := 17, slots := #[], vm := .none },
  { cls := 17, slots := #[], vm := .none }]
def classes : Array Class := #[k0, k1, k2, k3, k4, k5, k6, k7, k8, k9, k10, k11, k12, k13, k14, k15, k16, k17]
def interned : List (Array UInt16 × Addr) := []
def slotsUsed : Nat := 4
def theMethod : MethodId := ⟨1, 1⟩
def args0 : Array Value := #[.int 1, .int 2, .int 3, .int 4, .int 5]
def aboutOver (below : List Frame) : State where
  vm := { classes := classes, interned := interned.toArray }
  heap := heap
  slotsUsed := slotsUsed
  threads := #[{ frames := .invoking theMethod args0 :: below }]
def below0 : List Frame := [.native { method := ⟨0, 0⟩, args := #[] }]
def about1 : State := aboutOver below0
def p0 : Program := .bare "" "" ""
def e0 : Env := launch0.env 0 0 0
theorem w_frames : about1.frames = Frame.invoking theMethod args0 :: below0 := rfl
set_option maxRecDepth 65536 in
theorem w_args : argsFit about1.vm theMethod args0 = true := by decide +kernel
set_option maxRecDepth 65536 in
theorem w_heap : heapFits about1 = true := by decide +kernel
set_option maxRecDepth 65536 in
theorem w_runnable : about1.curStatus? = some .runnable := by decide +kernel
set_option maxRecDepth 65536 in
theorem w_alone : about1.alone = true := by decide +kernel
set_option maxRecDepth 65536 in
theorem w_named : about1.methodNamed? x = some theMethod := by decide +kernel
set_option maxRecDepth 65536 in
theorem w_hears : about1.hears theMethod below0 = true := by decide +kernel
set_option maxRecDepth 65536 in
theorem w_ripe : about1.ripe theMethod args0 below0 = true := by decide +kernel
theorem w_running : about1.status = .running := rfl
set_option maxRecDepth 65536 in
theorem w_room : about1.hasRoom e0.platform room_1 = true :=
  launch0.hasRoom_least _ room_1 (by decide +kernel) (by decide +kernel) (by decide +kernel) (by decide +kernel) (by decide +kernel) (by decide +kernel)
theorem allAtoms_all (ts : List Jvm.Cond) (a : Array Jvm.Value) (st : Jvm.State) : (allAtoms ts).before a st = ts.all (fun c => c.before a st) := by
  induction ts with
  | nil => rfl
  | cons c t ih =>
    show (Jvm.Cond.and c (allAtoms t)).before a st = _
    rw [Jvm.Cond.before_and, ih, List.all_cons]
def words1 : List Jvm.Cond := Jvm.Cond.code x code maxLocals ret :: tables_1
/-- a 'code' word, met by the world's own term for the bytes: nothing is compared byte by byte -/
theorem code_word {y : MethodName} {bytes : ByteArray} {mx : Nat} {rt : Option FieldType} {a : Array Value} {s : State} {m : MethodId} {meth : Method} {c : Code} (h1 : s.methodNamed? y = some m) (h2 : s.vm.method? m = some meth) (h3 : meth.code = some c) (h4 : c.code = bytes)
    (h5 : (c.maxLocals == mx && c.exceptionTable.isEmpty && decide (c.maxStack ≤ mostOperands) && decide (meth.sig.returnType = rt) && !meth.locks && decide (parseMethodDescriptor y.desc = some meth.sig)) = true) : (Jvm.Cond.code y bytes mx rt).before a s = true := by
  simp only [Bool.and_eq_true, beq_iff_eq, Bool.not_eq_true', decide_eq_true_eq] at h5
  obtain ⟨⟨⟨⟨⟨g1, g2⟩, g3⟩, g4⟩, g5⟩, g6⟩ := h5
  simp [Cond.before, Cond.holds, Cond.value, h1, h2, h3, h4, g1, g2, g3, g4, g5, g6]
def isCode : Jvm.Cond → Bool
  | .code _ _ _ _ => true
  | _ => false
theorem all_split {L : List Jvm.Cond} {P : Jvm.Cond → Bool} (h1 : L.all (fun c => isCode c || P c) = true) (h2 : ∀ c ∈ L.filter isCode, P c = true) : L.all P = true := by
  refine List.all_eq_true.mpr fun c hc => ?_
  have h := List.all_eq_true.mp h1 c hc
  rcases Bool.eq_false_or_eq_true (isCode c) with hi | hi
  · exact h2 c (List.mem_filter.mpr ⟨hc, hi⟩)
  · simpa [hi] using h
set_option maxRecDepth 65536 in
theorem w_c0 : (Jvm.Cond.code x code maxLocals ret).before args0 about1 = true := code_word (m := ⟨1, 1⟩) (meth := k1m1) (c := k1c1) (by decide +kernel) rfl rfl rfl (by decide +kernel)
set_option maxRecDepth 65536 in
theorem w_c1 : (Jvm.Cond.code ({ cls := "com/example/deferline/deferline/io/KeptState$Reader", name := "<init>", desc := "([BII)V" } : Jvm.MethodName) prog_37_method_1_code (4 : Nat) (Option.none : Option Jvm.ClassFile.FieldType)).before args0 about1 = true := code_word (m := ⟨2, 0⟩) (meth := k2m0) (c := k2c0) (by decide +kernel) rfl rfl rfl (by decide +kernel)
set_option maxRecDepth 65536 in
theorem w_c2 : (Jvm.Cond.code ({ cls := "java/lang/Object", name := "<init>", desc := "()V" } : Jvm.MethodName) object_method_1_code (1 : Nat) (Option.none : Option Jvm.ClassFile.FieldType)).before args0 about1 = true := code_word (m := ⟨0, 0⟩) (meth := k0m0) (c := k0c0) (by decide +kernel) rfl rfl rfl (by decide +kernel)
set_option maxRecDepth 65536 in
theorem w_c3 : (Jvm.Cond.code ({ cls := "java/util/ArrayList", name := "<init>", desc := "()V" } : Jvm.MethodName) jdk_38_method_2_code (1 : Nat) (Option.none : Option Jvm.ClassFile.FieldType)).before args0 about1 = true := code_word (m := ⟨12, 0⟩) (meth := k12m0) (c := k12c0) (by decide +kernel) rfl rfl rfl (by decide +kernel)
set_option maxRecDepth 65536 in
theorem w_c4 : (Jvm.Cond.code ({ cls := "java/util/AbstractList", name := "<init>", desc := "()V" } : Jvm.MethodName) jdk_39_method_1_code (1 : Nat) (Option.none : Option Jvm.ClassFile.FieldType)).before args0 about1 = true := code_word (m := ⟨8, 0⟩) (meth := k8m0) (c := k8c0) (by decide +kernel) rfl rfl rfl (by decide +kernel)
set_option maxRecDepth 65536 in
theorem w_c5 : (Jvm.Cond.code ({ cls := "java/util/AbstractCollection", name := "<init>", desc := "()V" } : Jvm.MethodName) jdk_22_method_1_code (1 : Nat) (Option.none : Option Jvm.ClassFile.FieldType)).before args0 about1 = true := code_word (m := ⟨5, 0⟩) (meth := k5m0) (c := k5c0) (by decide +kernel) rfl rfl rfl (by decide +kernel)
set_option maxRecDepth 65536 in
theorem w_c6 : (Jvm.Cond.code ({ cls := "com/example/deferline/deferline/io/KeptState$Reader", name := "atEnd", desc := "()Z" } : Jvm.MethodName) prog_37_method_10_code (1 : Nat) (Option.some Jvm.ClassFile.FieldType.boolean)).before args0 about1 = true := code_word (m := ⟨2, 2⟩) (meth := k2m2) (c := k2c2) (by decide +kernel) rfl rfl rfl (by decide +kernel)
set_option maxRecDepth 65536 in
theorem w_c7 : (Jvm.Cond.code ({ cls := "com/example/deferline/deferline/io/KeptState$Reader", name := "flag", desc := "()Z" } : Jvm.MethodName) prog_37_method_4_code (2 : Nat) (Option.some Jvm.ClassFile.FieldType.boolean)).before args0 about1 = true := code_word (m := ⟨2, 1⟩) (meth := k2m1) (c := k2c1) (by decide +kernel) rfl rfl rfl (by decide +kernel)
set_option maxRecDepth 65536 in
theorem w_c8 : (Jvm.Cond.code ({ cls := "com/example/deferline/deferline/io/KeptState$Reader", name := "next", desc := "()B" } : Jvm.MethodName) prog_37_method_13_code (1 : Nat) (Option.some Jvm.ClassFile.FieldType.byte)).before args0 about1 = true := code_word (m := ⟨2, 3⟩) (meth := k2m3) (c := k2c3) (by decide +kernel) rfl rfl rfl (by decide +kernel)
def codes1 : List Jvm.Cond := [Jvm.Cond.code x code maxLocals ret, Jvm.Cond.code ({ cls := "com/example/deferline/deferline/io/KeptState$Reader", name := "<init>", desc := "([BII)V" } : Jvm.MethodName) prog_37_method_1_code (4 : Nat) (Option.none : Option Jvm.ClassFile.FieldType), Jvm.Cond.code ({ cls := "java/lang/Object", name := "<init>", desc := "()V" } : Jvm.MethodName) object_method_1_code (1 : Nat) (Option.none : Option Jvm.ClassFile.FieldType), Jvm.Cond.code ({ cls := "java/util/ArrayList", name := "<init>", desc := "()V" } : Jvm.MethodName) jdk_38_method_2_code (1 : Nat) (Option.none : Option Jvm.ClassFile.FieldType), Jvm.Cond.code ({ cls := "java/util/AbstractList", name := "<init>", desc := "()V" } : Jvm.MethodName) jdk_39_method_1_code (1 : Nat) (Option.none : Option Jvm.ClassFile.FieldType), Jvm.Cond.code ({ cls := "java/util/AbstractCollection", name := "<init>", desc := "()V" } : Jvm.MethodName) jdk_22_method_1_code (1 : Nat) (Option.none : Option Jvm.ClassFile.FieldType), Jvm.Cond.code ({ cls := "com/example/deferline/deferline/io/KeptState$Reader", name := "atEnd", desc := "()Z" } : Jvm.MethodName) prog_37_method_10_code (1 : Nat) (Option.some Jvm.ClassFile.FieldType.boolean), Jvm.Cond.code ({ cls := "com/example/deferline/deferline/io/KeptState$Reader", name := "flag", desc := "()Z" } : Jvm.MethodName) prog_37_method_4_code (2 : Nat) (Option.some Jvm.ClassFile.FieldType.boolean), Jvm.Cond.code ({ cls := "com/example/deferline/deferline/io/KeptState$Reader", name := "next", desc := "()B" } : Jvm.MethodName) prog_37_method_13_code (1 : Nat) (Option.some Jvm.ClassFile.FieldType.byte)]
set_option maxRecDepth 65536 in
theorem codes_eq : words1.filter isCode = codes1 := rfl
theorem w_codes : ∀ c ∈ words1.filter isCode, c.before args0 about1 = true := by
  rw [codes_eq]
  intro c hc
  simp only [codes1, List.mem_cons, List.not_mem_nil, or_false] at hc
  rcases hc with rfl | rfl | rfl | rfl | rfl | rfl | rfl | rfl | rfl
  · exact w_c0
  · exact w_c1
  · exact w_c2
  · exact w_c3
  · exact w_c4
  · exact w_c5
  · exact w_c6
  · exact w_c7
  · exact w_c8
set_option maxRecDepth 65536 in
theorem w_t1 : (words1.take 24).all (fun c => isCode c || c.before args0 about1) = true := by decide +kernel
set_option maxRecDepth 65536 in
theorem w_t2 : ((words1.drop 24).take 24).all (fun c => isCode c || c.before args0 about1) = true := by decide +kernel
set_option maxRecDepth 65536 in
theorem w_t3 : ((words1.drop 24).drop 24).all (fun c => isCode c || c.before args0 about1) = true := by decide +kernel
theorem w_tables : (allAtoms (Jvm.Cond.code x code maxLocals ret :: tables_1)).before args0 about1 = true := by
  rw [allAtoms_all]
  show words1.all (fun c => c.before args0 about1) = true
  refine all_split ?_ w_codes
  rw [← List.take_append_drop 24 words1, List.all_append, w_t1, ← List.take_append_drop 24 (words1.drop 24), List.all_append, w_t2, w_t3]
  rfl
set_option maxRecDepth 65536 in
theorem w_rest : rest_1_c.before args0 about1 = true := by decide +kernel
set_option maxRecDepth 65536 in
theorem w_case : (Jvm.Cond.and given_1 narrow_1).before args0 about1 = true := by decide +kernel
theorem w_applies : (headSpec (Jvm.Cond.code x code maxLocals ret :: tables_1) room_1).applies x e0.platform about1 = true :=
  (Spec.applies_iff w_frames).mpr ⟨w_running, w_runnable, w_alone, w_named, w_hears, w_ripe, w_room, w_tables⟩
theorem atStart : AtStart classFile x code maxLocals ret World_1 tables_1 room_1 Calls_1 rest_1 Pre_1 launch0 p0 e0 about1 theMethod args0 below0 :=
  ⟨lists_1, trivial, launch0.admits_env _ _ _, launch0.least_env, fairChoices_fair.cas, fairChoices_fair.clock, w_frames, w_args, w_heap, w_applies, trivial, w_rest, w_case⟩
end start1
theorem witness_1 : WitnessClaimed_1 := ⟨start1.p0, start1.e0, start1.about1, start1.theMethod, start1.args0, start1.below0, start1.atStart⟩
end Jvm.Pilot.@@N@@
