import JvmDerived
import JvmDerived.Pilot.@@N@@Statement
import JvmDerived.Pilot.@@N@@Code
set_option linter.unusedVariables false
set_option linter.unusedSimpArgs false
namespace Jvm.RoadKit
open Sem ClassFile Op Lib Jvm.Stand Jvm.Free Jvm.LawKit
section New
variable {p : Program} {l : Launch} {e : Env} {R : Room} {s : State} {m : MethodId} {args : Array Value} {below : List Frame} {meth : Method} {c : Code} {T : State} {locs : List Loc} {cells slots : Nat}
theorem retI (X : Stand p l e R s m args below meth c T locs cells slots) (hx : p.tables.exec = Jvm.exec) {pc : Nat} {Ls : Array Slot} {z : Int32} {rest : List Value} (hret : meth.sig.returnType = some .int) (hd : decode c.code pc = .ok (.ireturn, 1)) {fs : List Frame}
    (hl : ∀ (f : JFrame) (acts : List Action), f.method = m → f.locked = none → f.entered = [] → (doReturn e (T.setTop f) acts (some (.int z))).1 = T.setFrames fs) : Steps p.tables e below (T.setTop (mkF m pc Ls (.int z :: rest))) (T.setFrames fs) := by
  have hm' : T.vm.method? m = some meth := X.method'
  have hn : narrow .int (.int z) = .int z := rfl
  show Steps p.tables e below (T.setTop { method := m, pc := pc, locals := Ls, stack := _ :: rest, locked := none }) _
  jvm_step X.here [X.here.top, hx, hd, hm', hret, hn]
  first | (intro acts; rw [hl _ acts rfl rfl rfl]) | rw [hl _ _ rfl rfl rfl]
  exact Steps.refl _
end New
end Jvm.RoadKit
namespace Jvm.Pilot.@@N@@
open Jvm Jvm.ClassFile Sem Op Lib Jvm.Free Jvm.Stand Jvm.LawKit Jvm.RoadKit Bundle Jvm.Pilot.@@N@@.Jvm.D
/-- from the state T the run comes to a state of which K holds -/
def own_Go (p : Program) (e : Env) (below : List Frame) (K : State → Prop) (T : State) : Prop := ∃ t, Steps p.tables e below T t ∧ K t
theorem own_st {p : Program} {e : Env} {below : List Frame} {K : State → Prop} {T T' : State} (h : ∀ t, Steps p.tables e below T' t → Steps p.tables e below T t) (g : own_Go p e below K T') : own_Go p e below K T := by
  obtain ⟨t, a, b⟩ := g; exact ⟨t, h t a, b⟩
theorem own_tr {p : Program} {e : Env} {below : List Frame} {K : State → Prop} {T T' : State} (h : Steps p.tables e below T T') (g : own_Go p e below K T') : own_Go p e below K T := by
  obtain ⟨t, a, b⟩ := g; exact ⟨t, h.trans a, b⟩
theorem own_lrem {tb : Tables} [Ours tb] {e : Env} {below : List Frame} {T target : State} {m : MethodId} {c : Code} {g : JFrame} (h : At T m c below) (hx : tb.exec = Jvm.exec) (hg : g.method = m) {x y : Int64} {rest : List Value} (hd : decode c.code g.pc = .ok (.lrem, 1)) (hs : g.stack = .long y :: .long x :: rest) (hy : y ≠ 0)
    (hr : Steps tb e below (T.setTop { g with pc := g.pc + 1, stack := .long (x % y) :: rest }) target) : Steps tb e below (T.setTop g) target := by
  have q : x - x / y * y = x % y := lrem_mod x y
  exact XS.lrem h hx hg hd hs hy (by rw [q]; exact hr)
/-- a boolean's worth: 1 where P holds, 0 where it doesn't -/
def own_B (P : Prop) (r : Int32) : Prop := (r = 1 ∧ P) ∨ (r = 0 ∧ ¬ P)
theorem own_B.yes {P : Prop} {r : Int32} (e : r = 1) (h : P) : own_B P r := Or.inl ⟨e, h⟩
theorem own_B.no {P : Prop} {r : Int32} (e : r = 0) (h : ¬ P) : own_B P r := Or.inr ⟨e, h⟩
theorem own_B.same {P Q : Prop} {r v : Int32} (a : own_B P r) (b : own_B Q v) (h : P ↔ Q) : r = v := by
  rcases a with ⟨rfl, p⟩ | ⟨rfl, p⟩ <;> rcases b with ⟨rfl, q⟩ | ⟨rfl, q⟩
  · rfl
  · exact absurd (h.mp p) q
  · exact absurd (h.mpr q) p
  · rfl
theorem own_B.one {P : Prop} {r : Int32} (a : own_B P r) (h : P) : r = 1 := by
  rcases a with ⟨rfl, p⟩ | ⟨rfl, p⟩
  · rfl
  · exact absurd h p
theorem own_B.zero {P : Prop} {r : Int32} (a : own_B P r) (h : ¬ P) : r = 0 := by
  rcases a with ⟨rfl, p⟩ | ⟨rfl, p⟩
  · exact absurd p h
  · rfl
theorem own_B.ne0 {P : Prop} {r : Int32} (a : own_B P r) (h : P) : ¬ r = 0 := by rw [a.one h]; decide
theorem own_B.holds {P : Prop} {r : Int32} (a : own_B P r) (h : ¬ r = 0) : P := by
  rcases a with ⟨rfl, p⟩ | ⟨rfl, p⟩
  · exact p
  · exact absurd rfl h
theorem own_B.fails {P : Prop} {r : Int32} (a : own_B P r) (h : r = 0) : ¬ P := by
  rcases a with ⟨rfl, p⟩ | ⟨rfl, p⟩
  · exact absurd h (by decide)
  · exact p
theorem own_atJ (ws : List Int64) (i : Nat) : (ws.map Value.long).getD i (.long (0 : Int64)) = .long (ws.getD i 0) := by
  simp only [List.getD, List.getElem?_map]; cases ws[i]? <;> rfl
theorem own_atI (ws : List Int32) (i : Nat) : (ws.map Value.int).getD i (.int (0 : Int32)) = .int (ws.getD i 0) := by
  simp only [List.getD, List.getElem?_map]; cases ws[i]? <;> rfl
theorem own_selp {Z s : State} {a0 args : Array Value} {y : MethodName} {n : Nat} (hZ : Z.Warmed39 s.vm) (wi : (Jvm.Cond.instantiable y.cls n).before a0 Z = true) (wm : (Jvm.Cond.instanceMethod y).before a0 Z = true) (wp : (Jvm.Cond.privateMethod y).before a0 Z = true) (hy : y.cls ≠ "java/lang/invoke/MethodHandle" ∧ y.cls ≠ "java/lang/invoke/VarHandle") : (Jvm.Cond.selects y.cls y y).before args s = true := by
  have w1 : (Jvm.Cond.instantiable y.cls n).before args s = true := mvT hZ wi
  obtain ⟨c, k, h1, h2, h3, h4, -⟩ := Cond.instantiable_spec w1
  have h5 : k.isInterface = false := by cases hq : k.isInterface <;> simp [hq] at h4 ⊢
  exact selects_self_of_private h1 h2 h5 (Cond.privateMethod_at (mvP hZ wp (args := args))) (mvT hZ wm) hy
theorem own_hat {T : State} {h : Heap} {a : Addr} {c : Cell} (e : T.heap = h) (q : h[a]? = some c) : T.heap[a]? = some c := by rw [e]; exact q
theorem own_nn (x : Int32) : nar .byte (nar .byte x) = nar .byte x := by
  refine Int32.toInt_inj.mp ?_
  have a := c_i2b x
  have b := c_i2b x.toInt8.toInt32
  show x.toInt8.toInt32.toInt8.toInt32.toInt = x.toInt8.toInt32.toInt
  omega
theorem own_nb (x : Int32) : nar .byte x.toInt8.toInt32 = x.toInt8.toInt32 := own_nn x
theorem own_fit {x : Int32} (h : nar .byte x = x) : fits .byte (.int x) = true := by rw [← h]; exact fits_nar_byte x
theorem own_cl {j : Int32} {i : Nat} (h : j.toInt = (i : Int)) : j.toNatClampNeg = i := by rw [Int32.toNatClampNeg, h]; rfl
theorem own_lt {a b : Int32} (h : a.toInt < b.toInt) : a < b := Int32.lt_iff_toInt_lt.mpr h
theorem own_nlt {a b : Int32} (h : b.toInt ≤ a.toInt) : ¬ a < b := fun q => absurd (Int32.lt_iff_toInt_lt.mp q) (by omega)
theorem own_ltI {a b : Int32} (h : a < b) : a.toInt < b.toInt := Int32.lt_iff_toInt_lt.mp h
theorem own_nltI {a b : Int32} (h : ¬ a < b) : b.toInt ≤ a.toInt := by have := mt Int32.lt_iff_toInt_lt.mpr h; omega
theorem own_neI {a b : Int32} (h : ¬ a = b) : ¬ a.toInt = b.toInt := fun q => h (Int32.toInt_inj.mp q)
theorem own_ltL {a b : Int64} (h : a < b) : a.toInt < b.toInt := Int64.lt_iff_toInt_lt.mp h
theorem own_nltL {a b : Int64} (h : ¬ a < b) : b.toInt ≤ a.toInt := by have := mt Int64.lt_iff_toInt_lt.mpr h; omega
theorem own_neL {a b : Int64} (h : ¬ a = b) : ¬ a.toInt = b.toInt := fun q => h (Int64.toInt_inj.mp q)
def own_acc (xs : List Int32) : Nat → Int32 → Int32 → Nat → Int32
  | 0, v, sh, i => (v ||| (((xs.getD i 0) &&& (127 : Int32)) <<< (sh &&& 31)))
  | k + 1, v, sh, i => own_acc xs k (v ||| (((xs.getD i 0) &&& (127 : Int32)) <<< (sh &&& 31))) (sh + (7 : Int32)) (i + 1)
theorem own_nx {xs : List Int32} {xe ij : Nat} {ip vv sh : Int32} (h : ip.toInt = (ij : Int)) (hj : ij < xe) : own_acc xs (xe - ij) vv sh ij = own_acc xs (xe - (ij + 1)) (vv ||| (((xs.getD (ip).toNatClampNeg 0) &&& (127 : Int32)) <<< (sh &&& 31))) (sh + (7 : Int32)) (ij + 1) := by
  rw [own_cl h]
  obtain ⟨k, hk⟩ : ∃ k, xe - ij = k + 1 := ⟨xe - ij - 1, by omega⟩
  have e : xe - (ij + 1) = k := by omega
  rw [hk, e]
  rfl
theorem own_last {xs : List Int32} {ij : Nat} {ip vv sh : Int32} (h : ip.toInt = (ij : Int)) : (vv ||| (((xs.getD (ip).toNatClampNeg 0) &&& (127 : Int32)) <<< (sh &&& 31))) = own_acc xs (ij - ij) vv sh ij := by
  rw [own_cl h, Nat.sub_self]
  rfl
theorem own_p1 {p : Int32} {i : Nat} {n : Int32} (h : p.toInt = (i : Int)) (hn : (i : Int) < n.toInt) : (p + (1 : Int32)).toInt = ((i + 1 : Nat) : Int) := by
  have a := c_iadd p 1
  have t1 : (1 : Int32).toInt = 1 := by decide
  have r := rng32 (p + 1)
  have r2 := rng32 n
  rw [t1] at a
  omega
theorem own_is {xs : List Int32} {i e : Nat} {p : Int32} (h : p.toInt = (i : Int)) (hie : i ≤ e) (hng : ∀ j, i ≤ j → j < e → xs.getD j 0 < 0) (hn : ¬ xs.getD (p).toNatClampNeg 0 < 0) : i = e := by
  rw [own_cl h] at hn
  rcases Nat.lt_or_ge i e with q | q
  · exact absurd (hng i (Nat.le_refl _) q) hn
  · omega
theorem own_isnt {xs : List Int32} {i e : Nat} {p : Int32} (h : p.toInt = (i : Int)) (hie : i ≤ e) (hnd : ¬ xs.getD e 0 < 0) (hn : xs.getD (p).toNatClampNeg 0 < 0) : i < e := by
  rw [own_cl h] at hn
  rcases Nat.lt_or_ge i e with q | q
  · exact q
  · have : i = e := by omega
    rw [this] at hn
    exact absurd hn hnd
theorem own_pos (x : Int32) : ¬ ((x &&& (127 : Int32)).toInt8.toInt32) < 0 := by
  refine own_nlt ?_
  have e : (x &&& (127 : Int32)).toInt = x.toInt % 128 := c_mask x 127 7 (by decide) (by decide)
  have b := c_i2b (x &&& 127)
  show (0 : Int) ≤ _
  omega
theorem own_n4 {a i : Int32} (h : a &&& (3 : Int32) = i) : i = 0 ∨ i = 1 ∨ i = 2 ∨ i = 3 := by
  have e := c_mask a 3 2 (by decide) (by decide)
  rw [h] at e
  have e' : i.toInt = a.toInt % 4 := e
  have h' : i.toInt = 0 ∨ i.toInt = 1 ∨ i.toInt = 2 ∨ i.toInt = 3 := by omega
  rcases h' with q | q | q | q
  · exact Or.inl (Int32.toInt_inj.mp q)
  · exact Or.inr (Or.inl (Int32.toInt_inj.mp q))
  · exact Or.inr (Or.inr (Or.inl (Int32.toInt_inj.mp q)))
  · exact Or.inr (Or.inr (Or.inr (Int32.toInt_inj.mp q)))
def own_yes (xs : List Int32) (n i : Int32) : Prop := i < n ∧ ¬ xs.getD (i).toNatClampNeg 0 < 0
def own_NX (xs : List Int32) (n p r : Int32) : Prop := (r = p + (1 : Int32) ∧ own_yes xs n p) ∨ (r = p + (2 : Int32) ∧ ¬ own_yes xs n p ∧ own_yes xs n (p + (1 : Int32))) ∨ (r = p + (3 : Int32) ∧ ¬ own_yes xs n p ∧ ¬ own_yes xs n (p + (1 : Int32)))
theorem own_q1 {p : Int32} (h : 0 ≤ p.toInt ∧ p.toInt < 100) : (p + (1 : Int32)).toInt = p.toInt + 1 := by
  have a := c_iadd p 1
  have t1 : (1 : Int32).toInt = 1 := by decide
  have r := rng32 (p + 1)
  rw [t1] at a
  omega
theorem own_ng0 {xs : List Int32} (i : Nat) : ∀ j, i ≤ j → j < i → xs.getD j 0 < 0 := fun j a b => by omega
theorem own_ng1 {xs : List Int32} (i : Nat) (h : xs.getD i 0 < 0) : ∀ j, i ≤ j → j < i + 1 → xs.getD j 0 < 0 := fun j a b => by
  have : j = i := by omega
  rw [this]; exact h
theorem own_ng2 {xs : List Int32} (i : Nat) (h : xs.getD i 0 < 0) (h' : xs.getD (i + 1) 0 < 0) : ∀ j, i ≤ j → j < i + 2 → xs.getD j 0 < 0 := fun j a b => by
  by_cases q : j = i
  · rw [q]; exact h
  · have : j = i + 1 := by omega
    rw [this]; exact h'
theorem own_neg {xs : List Int32} {n i : Int32} (h : ¬ own_yes xs n i) (hn : i < n) : xs.getD (i).toNatClampNeg 0 < 0 := Decidable.byContradiction fun q => h ⟨hn, q⟩
theorem own_N0 {xs : List Int32} {n r : Int32} (h : own_NX xs n 0 r) : (r = 1 ∧ own_yes xs n 0) ∨ (r = 2 ∧ ¬ own_yes xs n 0 ∧ own_yes xs n 1) ∨ (r = 3 ∧ ¬ own_yes xs n 0 ∧ ¬ own_yes xs n 1) := h
theorem own_N1 {xs : List Int32} {n r : Int32} (h : own_NX xs n 1 r) : (r = 2 ∧ own_yes xs n 1) ∨ (r = 3 ∧ ¬ own_yes xs n 1 ∧ own_yes xs n 2) ∨ (r = 4 ∧ ¬ own_yes xs n 1 ∧ ¬ own_yes xs n 2) := h
theorem own_N2 {xs : List Int32} {n r : Int32} (h : own_NX xs n 2 r) : (r = 3 ∧ own_yes xs n 2) ∨ (r = 4 ∧ ¬ own_yes xs n 2 ∧ own_yes xs n 3) ∨ (r = 5 ∧ ¬ own_yes xs n 2 ∧ ¬ own_yes xs n 3) := h
theorem own_neg0 {xs : List Int32} {n : Int32} (h : ¬ own_yes xs n 0) (hn : (0 : Int32) < n) : xs.getD 0 0 < 0 := by
  have q := own_neg h hn
  rw [show (0 : Int32).toNatClampNeg = 0 from by decide] at q
  exact q
theorem own_neg1 {xs : List Int32} {n : Int32} (h : ¬ own_yes xs n 1) (hn : (1 : Int32) < n) : xs.getD 1 0 < 0 := by
  have q := own_neg h hn
  rw [show (1 : Int32).toNatClampNeg = 1 from by decide] at q
  exact q
theorem own_neg2 {xs : List Int32} {n : Int32} (h : ¬ own_yes xs n 2) (hn : (2 : Int32) < n) : xs.getD 2 0 < 0 := by
  have q := own_neg h hn
  rw [show (2 : Int32).toNatClampNeg = 2 from by decide] at q
  exact q
theorem d1_0 : decode prog_8_method_1_code 0 = .ok (.aload_n 0, 1) := by decide +kernel
theorem d1_1 : decode prog_8_method_1_code 1 = .ok (.invokespecial 1, 3) := by decide +kernel
theorem d1_4 : decode prog_8_method_1_code 4 = .ok (.aload_n 0, 1) := by decide +kernel
theorem d1_5 : decode prog_8_method_1_code 5 = .ok (.aload_n 1, 1) := by decide +kernel
theorem d1_6 : decode prog_8_method_1_code 6 = .ok (.putfield 7, 3) := by decide +kernel
theorem d1_9 : decode prog_8_method_1_code 9 = .ok (.return_, 1) := by decide +kernel
theorem pn_1 : plainName "com/example/ms2rank/ms2rank/candidate/Unpacker" = true := by first | (simp [plainName, overriddenIn]; done) | decide +kernel
theorem ef_1 (m : MethodId) (x0 : Addr) (x1 : Addr) : entryFrame m #[(.ref x0), (.ref x1)] 2 = mkF m 0 #[.val (.ref x0), .val (.ref x1)] [] := by first | (simp [entryFrame, mkF, argsToLocals, Value.category]; done) | rfl
def Q1 (Z : State) (a1 : Addr) (a2 : Addr) (h0 : Heap) (n0 : Nat) (v : Option Value) (h : Heap) (L : List Loc) : Prop := v = none ∧ Fr n0 L ∧ Keep h0 h [a1] ∧ (Exa Z h a1 "com/example/ms2rank/ms2rank/candidate/Unpacker") ∧ (Fld Z h a1 "com/example/ms2rank/ms2rank/candidate/Unpacker" "packed" "[B" (.ref a2)) ∧ (Fld Z h a1 "com/example/ms2rank/ms2rank/candidate/Unpacker" "at" "I" (.int (0 : Int32)))
set_option maxRecDepth 65536 in
set_option maxHeartbeats 40000000 in
theorem rm1 (l : Launch) (Z : State) (a0 : Array Value) (hw : ∀ d ∈ tables_1, d.before a0 Z = true) (ws : List Jvm.Cond) (a1 : Addr) (a2 : Addr) (h0 : Heap) (n0 : Nat) (Z0 : n0 ≤ h0.size) (g_a1 : n0 ≤ a1) (P0 : Exa Z h0 a1 "com/example/ms2rank/ms2rank/candidate/Unpacker") (P1 : Fld Z h0 a1 "com/example/ms2rank/ms2rank/candidate/Unpacker" "packed" "[B" .null) (P2 : Fld Z h0 a1 "com/example/ms2rank/ms2rank/candidate/Unpacker" "at" "I" (.int (0 : Int32))) :
    MetFree l (⟨"com/example/ms2rank/ms2rank/candidate/Unpacker", "<init>", "([B)V"⟩ : MethodName) (head1 (Jvm.Cond.code (⟨"com/example/ms2rank/ms2rank/candidate/Unpacker", "<init>", "([B)V"⟩ : MethodName) prog_8_method_1_code 2 none :: ws) ({ frames := 1, cells := 0, slots := 0, locals := 12 } : Room)) (fun a U => a = #[(.ref a1), (.ref a2)] ∧ Z.Warmed39 U.vm ∧ U.heap = h0) (fun _ _ _ _ _ => True) (fun _ U o U' => ∃ v L, o = .returned v ∧ Q1 Z a1 a2 h0 n0 v U'.heap L ∧ FrameEnd U o U' L ({ frames := 1, cells := 0, slots := 0, locals := 12 } : Room).cells ({ frames := 1, cells := 0, slots := 0, locals := 12 } : Room).slots) := by
  refine MetFree.of_bodySF (plainFor_of_name pn_1) hisR ?_
  intro p e s m args below meth c s₁ Bd hml0 hP hK
  obtain ⟨rfl, hZ, hh⟩ := hP
  have hx := Bd.exec
  have hby := Bd.bytes
  have hml : c.maxLocals = 2 := hml0
  have hown : s.vm.findClass "com/example/ms2rank/ms2rank/candidate/Unpacker" = some m.cls := findClass_of_methodNamed Bd.named
  have hnm := (name_of_methodNamed Bd.named Bd.method).1
  have X0 : Stand p l e ({ frames := 1, cells := 0, slots := 0, locals := 12 } : Room) s m #[(.ref a1), (.ref a2)] below meth c s₁ [] 0 0 := Stand.of_body Bd
  have e0 : s₁.heap = h0 := by rw [← hh, Bd.state]; rfl
  have N0 := Fr.nil n0
  suffices G0 : ∀ K : State → Prop, (∀ (n : State) (v : Option Value) (L : List Loc), n.status = .running → Ended n below (.returned v) → Q1 Z a1 a2 h0 n0 v n.heap L → FrameEnd s (.returned v) n L ({ frames := 1, cells := 0, slots := 0, locals := 12 } : Room).cells ({ frames := 1, cells := 0, slots := 0, locals := 12 } : Room).slots → K n) → own_Go p e below K (s₁.setTop (mkF m 0 #[.val (.ref a1), .val (.ref a2)] [])) by
    obtain ⟨t, st, o, a, b, v, L, e1, q, fe⟩ := G0 (fun n => ∃ o, n.status = .running ∧ Ended n below o ∧ ∃ v L, o = .returned v ∧ Q1 Z a1 a2 h0 n0 v n.heap L ∧ FrameEnd s o n L ({ frames := 1, cells := 0, slots := 0, locals := 12 } : Room).cells ({ frames := 1, cells := 0, slots := 0, locals := 12 } : Room).slots) (fun n v L a b q f => ⟨_, a, b, v, L, rfl, q, f⟩)
    exact ⟨t, o, castTop (ef_1 m a1 a2) st, a, b, v, L, e1, q, fe⟩
  intro K fin
  show own_Go p e below K (s₁.setTop (mkF m 0 #[.val (.ref a1), .val (.ref a2)] []))
  refine own_st (fun t k => XS.aloadN X0.here hx rfl (hb hby d1_0) rfl rfl k) ?_
  show own_Go p e below K (s₁.setTop (mkF m 1 #[.val (.ref a1), .val (.ref a2)] [(.ref a1)]))
  obtain ⟨T1, X1, e1, st1⟩ := initO X0 hx hZ hown (hw _ (List.mem_of_getElem? (i := 7) rfl)) (hw _ (List.mem_of_getElem? (i := 8) rfl)) (hw _ (List.mem_of_getElem? (i := 9) rfl)) e0 (g := (mkF m 1 #[.val (.ref a1), .val (.ref a2)] [(.ref a1)])) rfl (by rw [hml]; rfl) rfl (hb hby d1_1) (by decide) (W := 0) (by show 2 * 0 + _ ≤ _; exact Nat.le_of_eq rfl) (by decide)
  refine own_st st1 ?_
  show own_Go p e below K (T1.setTop (mkF m 4 #[.val (.ref a1), .val (.ref a2)] []))
  try clear st1
  refine own_st (fun t k => XS.aloadN X1.here hx rfl (hb hby d1_4) rfl rfl k) ?_
  show own_Go p e below K (T1.setTop (mkF m 5 #[.val (.ref a1), .val (.ref a2)] [(.ref a1)]))
  refine own_st (fun t k => XS.aloadN X1.here hx rfl (hb hby d1_5) rfl rfl k) ?_
  show own_Go p e below K (T1.setTop (mkF m 6 #[.val (.ref a1), .val (.ref a2)] [(.ref a2), (.ref a1)]))
  obtain ⟨T2, h2, X2, e2, W2, st2⟩ := putF X1 hx hZ hown (host := "") (Or.inl (hw _ (List.mem_of_getElem? (i := 10) rfl))) Via.refl e1 P1 P0 (Or.inr ⟨(hw _ (List.mem_of_getElem? (i := 11) rfl)), rfl, hnm⟩) (hw _ (List.mem_of_getElem? (i := 2) rfl)) (ty := (.array .byte)) (by decide) rfl rfl (g := (mkF m 6 #[.val (.ref a1), .val (.ref a2)] [(.ref a2), (.ref a1)])) rfl rfl (hb hby d1_6)
  have fw2 : Fld Z h2 a1 "com/example/ms2rank/ms2rank/candidate/Unpacker" "packed" "[B" (.ref a2) := P1.same W2
  have f3 : Exa Z h2 a1 "com/example/ms2rank/ms2rank/candidate/Unpacker" := P0.wr W2
  have f4 : Fld Z h2 a1 "com/example/ms2rank/ms2rank/candidate/Unpacker" "at" "I" (.int (0 : Int32)) := P2.other W2 (Or.inr (slot_ne (Or.inl (hw _ (List.mem_of_getElem? (i := 18) rfl))) (Or.inr (hw _ (List.mem_of_getElem? (i := 11) rfl))) (by decide) (t := .int) (t' := (.array .byte)) (by decide) (by decide)))
  have N2 := Fr.snoc X2 N0 g_a1
  have Z2 : n0 ≤ h2.size := Nat.le_trans Z0 (Keep.of_wr W2).1
  have K2 : Keep h0 h2 [a1] := (Keep.refl h0 [a1]).wr W2 (Or.inl (List.mem_of_getElem? (i := 0) rfl))
  refine own_st st2 ?_
  show own_Go p e below K (T2.setTop (mkF m 9 #[.val (.ref a1), .val (.ref a2)] []))
  try clear X1 e1 st2 P0 P2
  obtain ⟨fs, hr, hrun, hended, hW, hsame⟩ := X2.leave (v := none) (fun _ => rfl)
  refine ⟨_, X2.returnOut hx Bd.returns (hb hby d1_9) hr, fin _ _ _ hrun hended ?_ ⟨⟨_, rfl⟩, hW, hsame.mono (by decide) (by decide)⟩⟩
  show Q1 Z a1 a2 h0 n0 _ T2.heap _
  rw [e2]
  exact ⟨rfl, N2, K2, f3, fw2, f4⟩
theorem d3_0 : decode prog_8_method_2_code 0 = .ok (.aload_n 0, 1) := by decide +kernel
theorem d3_1 : decode prog_8_method_2_code 1 = .ok (.getfield 13, 3) := by decide +kernel
theorem d3_4 : decode prog_8_method_2_code 4 = .ok (.aload_n 0, 1) := by decide +kernel
theorem d3_5 : decode prog_8_method_2_code 5 = .ok (.getfield 7, 3) := by decide +kernel
theorem d3_8 : decode prog_8_method_2_code 8 = .ok (.arraylength, 1) := by decide +kernel
theorem d3_9 : decode prog_8_method_2_code 9 = .ok (.if_icmp .ne 7, 3) := by decide +kernel
theorem d3_12 : decode prog_8_method_2_code 12 = .ok (.iconst 1, 1) := by decide +kernel
theorem d3_13 : decode prog_8_method_2_code 13 = .ok (.goto 4, 3) := by decide +kernel
theorem d3_16 : decode prog_8_method_2_code 16 = .ok (.iconst 0, 1) := by decide +kernel
theorem d3_17 : decode prog_8_method_2_code 17 = .ok (.ireturn, 1) := by decide +kernel
theorem pn_3 : plainName "com/example/ms2rank/ms2rank/candidate/Unpacker" = true := by first | (simp [plainName, overriddenIn]; done) | decide +kernel
theorem ef_3 (m : MethodId) (x0 : Addr) : entryFrame m #[(.ref x0)] 1 = mkF m 0 #[.val (.ref x0)] [] := by first | (simp [entryFrame, mkF, argsToLocals, Value.category]; done) | rfl
def Q3 (Z : State) (a1 : Addr) (xp : Int32) (xa : Addr) (xk : ClassId) (xn : Int32) (xs : List Int32) (h0 : Heap) (n0 : Nat) (v : Option Value) (h : Heap) (L : List Loc) : Prop := ∃ (r : Int32), v = some (.int r) ∧ (own_B (xp = xn) r) ∧ Fr n0 L ∧ h = h0
set_option maxRecDepth 65536 in
set_option maxHeartbeats 40000000 in
theorem rm3 (l : Launch) (Z : State) (a0 : Array Value) (hw : ∀ d ∈ tables_1, d.before a0 Z = true) (ws : List Jvm.Cond) (a1 : Addr) (xp : Int32) (xa : Addr) (xk : ClassId) (xn : Int32) (xs : List Int32) (h0 : Heap) (n0 : Nat) (Z0 : n0 ≤ h0.size) (P0 : Fld Z h0 a1 "com/example/ms2rank/ms2rank/candidate/Unpacker" "at" "I" (.int xp)) (P1 : Fld Z h0 a1 "com/example/ms2rank/ms2rank/candidate/Unpacker" "packed" "[B" (.ref xa)) (P2 : Arv Z h0 xa xk .byte xn (xs.map Value.int) (.int (0 : Int32))) :
    MetFree l (⟨"com/example/ms2rank/ms2rank/candidate/Unpacker", "atEnd", "()Z"⟩ : MethodName) (head1 (Jvm.Cond.code (⟨"com/example/ms2rank/ms2rank/candidate/Unpacker", "atEnd", "()Z"⟩ : MethodName) prog_8_method_2_code 1 (some .boolean) :: ws) ({ frames := 0, cells := 0, slots := 0, locals := 0 } : Room)) (fun a U => a = #[(.ref a1)] ∧ Z.Warmed39 U.vm ∧ U.heap = h0) (fun _ _ _ _ _ => True) (fun _ U o U' => ∃ v L, o = .returned v ∧ Q3 Z a1 xp xa xk xn xs h0 n0 v U'.heap L ∧ FrameEnd U o U' L ({ frames := 0, cells := 0, slots := 0, locals := 0 } : Room).cells ({ frames := 0, cells := 0, slots := 0, locals := 0 } : Room).slots) := by
  refine MetFree.of_bodySF (plainFor_of_name pn_3) hisR ?_
  intro p e s m args below meth c s₁ Bd hml0 hP hK
  obtain ⟨rfl, hZ, hh⟩ := hP
  have hx := Bd.exec
  have hby := Bd.bytes
  have hml : c.maxLocals = 1 := hml0
  have hown : s.vm.findClass "com/example/ms2rank/ms2rank/candidate/Unpacker" = some m.cls := findClass_of_methodNamed Bd.named
  have hnm := (name_of_methodNamed Bd.named Bd.method).1
  have X0 : Stand p l e ({ frames := 0, cells := 0, slots := 0, locals := 0 } : Room) s m #[(.ref a1)] below meth c s₁ [] 0 0 := Stand.of_body Bd
  have e0 : s₁.heap = h0 := by rw [← hh, Bd.state]; rfl
  have N0 := Fr.nil n0
  suffices G0 : ∀ K : State → Prop, (∀ (n : State) (v : Option Value) (L : List Loc), n.status = .running → Ended n below (.returned v) → Q3 Z a1 xp xa xk xn xs h0 n0 v n.heap L → FrameEnd s (.returned v) n L ({ frames := 0, cells := 0, slots := 0, locals := 0 } : Room).cells ({ frames := 0, cells := 0, slots := 0, locals := 0 } : Room).slots → K n) → own_Go p e below K (s₁.setTop (mkF m 0 #[.val (.ref a1)] [])) by
    obtain ⟨t, st, o, a, b, v, L, e1, q, fe⟩ := G0 (fun n => ∃ o, n.status = .running ∧ Ended n below o ∧ ∃ v L, o = .returned v ∧ Q3 Z a1 xp xa xk xn xs h0 n0 v n.heap L ∧ FrameEnd s o n L ({ frames := 0, cells := 0, slots := 0, locals := 0 } : Room).cells ({ frames := 0, cells := 0, slots := 0, locals := 0 } : Room).slots) (fun n v L a b q f => ⟨_, a, b, v, L, rfl, q, f⟩)
    exact ⟨t, o, castTop (ef_3 m a1) st, a, b, v, L, e1, q, fe⟩
  intro K fin
  show own_Go p e below K (s₁.setTop (mkF m 0 #[.val (.ref a1)] []))
  refine own_st (fun t k => XS.aloadN X0.here hx rfl (hb hby d3_0) rfl rfl k) ?_
  show own_Go p e below K (s₁.setTop (mkF m 1 #[.val (.ref a1)] [(.ref a1)]))
  obtain ⟨T1, X1, e1, st1⟩ := getF X0 hx hZ hown (host := "") (Or.inl (hw _ (List.mem_of_getElem? (i := 17) rfl))) Via.refl e0 P0 (g := (mkF m 1 #[.val (.ref a1)] [(.ref a1)])) rfl rfl (hb hby d3_1)
  refine own_st st1 ?_
  show own_Go p e below K (T1.setTop (mkF m 4 #[.val (.ref a1)] [(.int xp)]))
  try clear st1
  refine own_st (fun t k => XS.aloadN X1.here hx rfl (hb hby d3_4) rfl rfl k) ?_
  show own_Go p e below K (T1.setTop (mkF m 5 #[.val (.ref a1)] [(.ref a1), (.int xp)]))
  obtain ⟨T2, X2, e2, st2⟩ := getF X1 hx hZ hown (host := "") (Or.inl (hw _ (List.mem_of_getElem? (i := 10) rfl))) Via.refl e1 P1 (g := (mkF m 5 #[.val (.ref a1)] [(.ref a1), (.int xp)])) rfl rfl (hb hby d3_5)
  refine own_st st2 ?_
  show own_Go p e below K (T2.setTop (mkF m 8 #[.val (.ref a1)] [(.ref xa), (.int xp)]))
  try clear X1 e1 st2
  obtain ⟨cl3, Ar3, -, Sa3, Ma3, -, -⟩ := id P2
  refine own_st (X2.arraylength hx (own_hat e2 Ar3.1) (State.isArrayOf_alike hZ.alike Ar3.2.1) (g := (mkF m 8 #[.val (.ref a1)] [(.ref xa), (.int xp)])) rfl rfl (hb hby d3_8)) ?_
  rw [len_of Sa3 Ma3]
  show own_Go p e below K (T2.setTop (mkF m 9 #[.val (.ref a1)] [(.int xn), (.int xp)]))
  by_cases hc9 : xp = xn
  · refine own_st (fun t k => XS.icmpNo X2.here hx rfl (hb hby d3_9) rfl (teq hc9).2 k) ?_
    show own_Go p e below K (T2.setTop (mkF m 12 #[.val (.ref a1)] []))
    refine own_st (fun t k => XS.iconst X2.here hx rfl (hb hby d3_12) k) ?_
    show own_Go p e below K (T2.setTop (mkF m 13 #[.val (.ref a1)] [(.int (1 : Int32))]))
    refine own_st (fun t k => XS.goto X2.here hx rfl (pc0 := 13) (pc' := 17) rfl (hb hby d3_13) (by decide) (by decide) k) ?_
    show own_Go p e below K (T2.setTop (mkF m 17 #[.val (.ref a1)] [(.int (1 : Int32))]))
    obtain ⟨fs, hr, hrun, hended, hW, hsame⟩ := X2.leave (v := some (.int (nar .boolean (1 : Int32)))) (fun h => by rw [Bd.returns] at h; cases h)
    refine ⟨_, retN X2 hx (t := .boolean) Bd.returns (by simp) (hb hby d3_17) hr, fin _ _ _ hrun hended ?_ ⟨⟨_, rfl⟩, hW, hsame.mono (by decide) (by decide)⟩⟩
    show Q3 Z a1 xp xa xk xn xs h0 n0 _ T2.heap _
    rw [e2]
    exact ⟨_, rfl, (own_B.yes (by decide) hc9), N0, rfl⟩
  refine own_st (fun t k => XS.icmpYes X2.here hx rfl (pc0 := 9) (pc' := 16) rfl (hb hby d3_9) rfl (feq hc9).2 (by decide) (by decide) k) ?_
  show own_Go p e below K (T2.setTop (mkF m 16 #[.val (.ref a1)] []))
  refine own_st (fun t k => XS.iconst X2.here hx rfl (hb hby d3_16) k) ?_
  show own_Go p e below K (T2.setTop (mkF m 17 #[.val (.ref a1)] [(.int (0 : Int32))]))
  obtain ⟨fs, hr, hrun, hended, hW, hsame⟩ := X2.leave (v := some (.int (nar .boolean (0 : Int32)))) (fun h => by rw [Bd.returns] at h; cases h)
  refine ⟨_, retN X2 hx (t := .boolean) Bd.returns (by simp) (hb hby d3_17) hr, fin _ _ _ hrun hended ?_ ⟨⟨_, rfl⟩, hW, hsame.mono (by decide) (by decide)⟩⟩
  show Q3 Z a1 xp xa xk xn xs h0 n0 _ T2.heap _
  rw [e2]
  exact ⟨_, rfl, (own_B.no (by decide) hc9), N0, rfl⟩
theorem d4_0 : decode method_2_code 0 = .ok (.aload_n 0, 1) := by decide +kernel
theorem d4_1 : decode method_2_code 1 = .ok (.arraylength, 1) := by decide +kernel
theorem d4_2 : decode method_2_code 2 = .ok (.istore_n 2, 1) := by decide +kernel
theorem d4_3 : decode method_2_code 3 = .ok (.iload_n 1, 1) := by decide +kernel
theorem d4_4 : decode method_2_code 4 = .ok (.iload_n 2, 1) := by decide +kernel
theorem d4_5 : decode method_2_code 5 = .ok (.if_icmp .ge 13, 3) := by decide +kernel
theorem d4_8 : decode method_2_code 8 = .ok (.aload_n 0, 1) := by decide +kernel
theorem d4_9 : decode method_2_code 9 = .ok (.iload_n 1, 1) := by decide +kernel
theorem d4_10 : decode method_2_code 10 = .ok (.baload, 1) := by decide +kernel
theorem d4_11 : decode method_2_code 11 = .ok (.ifCond .lt 7, 3) := by decide +kernel
theorem d4_14 : decode method_2_code 14 = .ok (.iload_n 1, 1) := by decide +kernel
theorem d4_15 : decode method_2_code 15 = .ok (.iconst 1, 1) := by decide +kernel
theorem d4_16 : decode method_2_code 16 = .ok (.iadd, 1) := by decide +kernel
theorem d4_17 : decode method_2_code 17 = .ok (.ireturn, 1) := by decide +kernel
theorem d4_18 : decode method_2_code 18 = .ok (.iload_n 1, 1) := by decide +kernel
theorem d4_19 : decode method_2_code 19 = .ok (.iconst 1, 1) := by decide +kernel
theorem d4_20 : decode method_2_code 20 = .ok (.iadd, 1) := by decide +kernel
theorem d4_21 : decode method_2_code 21 = .ok (.iload_n 2, 1) := by decide +kernel
theorem d4_22 : decode method_2_code 22 = .ok (.if_icmp .ge 15, 3) := by decide +kernel
theorem d4_25 : decode method_2_code 25 = .ok (.aload_n 0, 1) := by decide +kernel
theorem d4_26 : decode method_2_code 26 = .ok (.iload_n 1, 1) := by decide +kernel
theorem d4_27 : decode method_2_code 27 = .ok (.iconst 1, 1) := by decide +kernel
theorem d4_28 : decode method_2_code 28 = .ok (.iadd, 1) := by decide +kernel
theorem d4_29 : decode method_2_code 29 = .ok (.baload, 1) := by decide +kernel
theorem d4_30 : decode method_2_code 30 = .ok (.ifCond .lt 7, 3) := by decide +kernel
theorem d4_33 : decode method_2_code 33 = .ok (.iload_n 1, 1) := by decide +kernel
theorem d4_34 : decode method_2_code 34 = .ok (.iconst 2, 1) := by decide +kernel
theorem d4_35 : decode method_2_code 35 = .ok (.iadd, 1) := by decide +kernel
theorem d4_36 : decode method_2_code 36 = .ok (.ireturn, 1) := by decide +kernel
theorem d4_37 : decode method_2_code 37 = .ok (.iload_n 1, 1) := by decide +kernel
theorem d4_38 : decode method_2_code 38 = .ok (.iconst 3, 1) := by decide +kernel
theorem d4_39 : decode method_2_code 39 = .ok (.iadd, 1) := by decide +kernel
theorem d4_40 : decode method_2_code 40 = .ok (.ireturn, 1) := by decide +kernel
theorem pn_4 : plainName "com/example/ms2rank/ms2rank/candidate/UnpackerAtEndPinLaw" = true := by first | (simp [plainName, overriddenIn]; done) | decide +kernel
theorem ef_4 (m : MethodId) (x0 : Addr) (x1 : Int32) : entryFrame m #[(.ref x0), (.int x1)] 3 = mkF m 0 #[.val (.ref x0), .val (.int x1), .unset] [] := by first | (simp [entryFrame, mkF, argsToLocals, Value.category]; done) | rfl
def Q4 (Z : State) (a1 : Addr) (p2 : Int32) (xk : ClassId) (xn : Int32) (xs : List Int32) (h0 : Heap) (n0 : Nat) (v : Option Value) (h : Heap) (L : List Loc) : Prop := ∃ (r : Int32), v = some (.int r) ∧ (own_NX xs xn p2 r) ∧ Fr n0 L ∧ h = h0
set_option maxRecDepth 65536 in
set_option maxHeartbeats 40000000 in
theorem rm4 (l : Launch) (Z : State) (a0 : Array Value) (hw : ∀ d ∈ tables_1, d.before a0 Z = true) (ws : List Jvm.Cond) (a1 : Addr) (p2 : Int32) (xk : ClassId) (xn : Int32) (xs : List Int32) (h0 : Heap) (n0 : Nat) (Z0 : n0 ≤ h0.size) (P0 : Arv Z h0 a1 xk .byte xn (xs.map Value.int) (.int (0 : Int32))) (hz0 : 0 ≤ p2.toInt ∧ p2.toInt < 100) :
    MetFree l (⟨"com/example/ms2rank/ms2rank/candidate/UnpackerAtEndPinLaw", "next", "([BI)I"⟩ : MethodName) (head1 (Jvm.Cond.code (⟨"com/example/ms2rank/ms2rank/candidate/UnpackerAtEndPinLaw", "next", "([BI)I"⟩ : MethodName) method_2_code 3 (some .int) :: ws) ({ frames := 0, cells := 0, slots := 0, locals := 0 } : Room)) (fun a U => a = #[(.ref a1), (.int p2)] ∧ Z.Warmed39 U.vm ∧ U.heap = h0) (fun _ _ _ _ _ => True) (fun _ U o U' => ∃ v L, o = .returned v ∧ Q4 Z a1 p2 xk xn xs h0 n0 v U'.heap L ∧ FrameEnd U o U' L ({ frames := 0, cells := 0, slots := 0, locals := 0 } : Room).cells ({ frames := 0, cells := 0, slots := 0, locals := 0 } : Room).slots) := by
  refine MetFree.of_bodySF (plainFor_of_name pn_4) hisR ?_
  intro p e s m args below meth c s₁ Bd hml0 hP hK
  obtain ⟨rfl, hZ, hh⟩ := hP
  have hx := Bd.exec
  have hby := Bd.bytes
  have hml : c.maxLocals = 3 := hml0
  have hown : s.vm.findClass "com/example/ms2rank/ms2rank/candidate/UnpackerAtEndPinLaw" = some m.cls := findClass_of_methodNamed Bd.named
  have hnm := (name_of_methodNamed Bd.named Bd.method).1
  have X0 : Stand p l e ({ frames := 0, cells := 0, slots := 0, locals := 0 } : Room) s m #[(.ref a1), (.int p2)] below meth c s₁ [] 0 0 := Stand.of_body Bd
  have e0 : s₁.heap = h0 := by rw [← hh, Bd.state]; rfl
  have N0 := Fr.nil n0
  suffices G0 : ∀ K : State → Prop, (∀ (n : State) (v : Option Value) (L : List Loc), n.status = .running → Ended n below (.returned v) → Q4 Z a1 p2 xk xn xs h0 n0 v n.heap L → FrameEnd s (.returned v) n L ({ frames := 0, cells := 0, slots := 0, locals := 0 } : Room).cells ({ frames := 0, cells := 0, slots := 0, locals := 0 } : Room).slots → K n) → own_Go p e below K (s₁.setTop (mkF m 0 #[.val (.ref a1), .val (.int p2), .unset] [])) by
    obtain ⟨t, st, o, a, b, v, L, e1, q, fe⟩ := G0 (fun n => ∃ o, n.status = .running ∧ Ended n below o ∧ ∃ v L, o = .returned v ∧ Q4 Z a1 p2 xk xn xs h0 n0 v n.heap L ∧ FrameEnd s o n L ({ frames := 0, cells := 0, slots := 0, locals := 0 } : Room).cells ({ frames := 0, cells := 0, slots := 0, locals := 0 } : Room).slots) (fun n v L a b q f => ⟨_, a, b, v, L, rfl, q, f⟩)
    exact ⟨t, o, castTop (ef_4 m a1 p2) st, a, b, v, L, e1, q, fe⟩
  intro K fin
  show own_Go p e below K (s₁.setTop (mkF m 0 #[.val (.ref a1), .val (.int p2), .unset] []))
  refine own_st (fun t k => XS.aloadN X0.here hx rfl (hb hby d4_0) rfl rfl k) ?_
  show own_Go p e below K (s₁.setTop (mkF m 1 #[.val (.ref a1), .val (.int p2), .unset] [(.ref a1)]))
  obtain ⟨cl1, Ar1, -, Sa1, Ma1, -, -⟩ := id P0
  refine own_st (X0.arraylength hx (own_hat e0 Ar1.1) (State.isArrayOf_alike hZ.alike Ar1.2.1) (g := (mkF m 1 #[.val (.ref a1), .val (.int p2), .unset] [(.ref a1)])) rfl rfl (hb hby d4_1)) ?_
  rw [len_of Sa1 Ma1]
  show own_Go p e below K (s₁.setTop (mkF m 2 #[.val (.ref a1), .val (.int p2), .unset] [(.int xn)]))
  refine own_st (fun t k => XS.istoreN X0.here hx rfl (hb hby d4_2) rfl (l' := #[.val (.ref a1), .val (.int p2), .val (.int xn)]) rfl k) ?_
  show own_Go p e below K (s₁.setTop (mkF m 3 #[.val (.ref a1), .val (.int p2), .val (.int xn)] []))
  refine own_st (fun t k => XS.iloadN X0.here hx rfl (hb hby d4_3) rfl k) ?_
  show own_Go p e below K (s₁.setTop (mkF m 4 #[.val (.ref a1), .val (.int p2), .val (.int xn)] [(.int p2)]))
  refine own_st (fun t k => XS.iloadN X0.here hx rfl (hb hby d4_4) rfl k) ?_
  show own_Go p e below K (s₁.setTop (mkF m 5 #[.val (.ref a1), .val (.int p2), .val (.int xn)] [(.int xn), (.int p2)]))
  by_cases hc5 : p2 < xn
  · refine own_st (fun t k => XS.icmpNo X0.here hx rfl (hb hby d4_5) rfl (tlt hc5).2.1 k) ?_
    show own_Go p e below K (s₁.setTop (mkF m 8 #[.val (.ref a1), .val (.int p2), .val (.int xn)] []))
    refine own_st (fun t k => XS.aloadN X0.here hx rfl (hb hby d4_8) rfl rfl k) ?_
    show own_Go p e below K (s₁.setTop (mkF m 9 #[.val (.ref a1), .val (.int p2), .val (.int xn)] [(.ref a1)]))
    refine own_st (fun t k => XS.iloadN X0.here hx rfl (hb hby d4_9) rfl k) ?_
    show own_Go p e below K (s₁.setTop (mkF m 10 #[.val (.ref a1), .val (.int p2), .val (.int xn)] [(.int p2), (.ref a1)]))
    obtain ⟨cl2, Ar2, qa2, Sa2, Ma2, Ha2, Ga2⟩ := id P0
    have hin2 : ¬ (p2 < 0 ∨ cl2.slots.size ≤ (p2).toNatClampNeg) := inb_of Sa2 ⟨own_nlt hz0.1, hc5⟩
    refine own_st (X0.baloadBytes hx (j := p2) (v := (.int (xs.getD (p2).toNatClampNeg 0))) (own_hat e0 Ar2.1) (State.isArrayOf_alike hZ.alike Ar2.2.1) Ar2.2.2 hin2 (Has.at Ha2 hin2 (own_atI xs _)) (g := (mkF m 10 #[.val (.ref a1), .val (.int p2), .val (.int xn)] [(.int p2), (.ref a1)])) rfl rfl (hb hby d4_10)) ?_
    show own_Go p e below K (s₁.setTop (mkF m 11 #[.val (.ref a1), .val (.int p2), .val (.int xn)] [(.int (xs.getD (p2).toNatClampNeg 0))]))
    by_cases hc11 : (xs.getD (p2).toNatClampNeg 0) < (0 : Int32)
    · refine own_st (fun t k => XS.ifYes X0.here hx rfl (pc0 := 11) (pc' := 18) rfl (hb hby d4_11) rfl ((if0 _ _).trans (tlt hc11).1) (by decide) (by decide) k) ?_
      show own_Go p e below K (s₁.setTop (mkF m 18 #[.val (.ref a1), .val (.int p2), .val (.int xn)] []))
      refine own_st (fun t k => XS.iloadN X0.here hx rfl (hb hby d4_18) rfl k) ?_
      show own_Go p e below K (s₁.setTop (mkF m 19 #[.val (.ref a1), .val (.int p2), .val (.int xn)] [(.int p2)]))
      refine own_st (fun t k => XS.iconst X0.here hx rfl (hb hby d4_19) k) ?_
      show own_Go p e below K (s₁.setTop (mkF m 20 #[.val (.ref a1), .val (.int p2), .val (.int xn)] [(.int (1 : Int32)), (.int p2)]))
      refine own_st (fun t k => XS.iadd X0.here hx rfl (hb hby d4_20) rfl k) ?_
      show own_Go p e below K (s₁.setTop (mkF m 21 #[.val (.ref a1), .val (.int p2), .val (.int xn)] [(.int (p2 + (1 : Int32)))]))
      refine own_st (fun t k => XS.iloadN X0.here hx rfl (hb hby d4_21) rfl k) ?_
      show own_Go p e below K (s₁.setTop (mkF m 22 #[.val (.ref a1), .val (.int p2), .val (.int xn)] [(.int xn), (.int (p2 + (1 : Int32)))]))
      by_cases hc22 : (p2 + (1 : Int32)) < xn
      · refine own_st (fun t k => XS.icmpNo X0.here hx rfl (hb hby d4_22) rfl (tlt hc22).2.1 k) ?_
        show own_Go p e below K (s₁.setTop (mkF m 25 #[.val (.ref a1), .val (.int p2), .val (.int xn)] []))
        refine own_st (fun t k => XS.aloadN X0.here hx rfl (hb hby d4_25) rfl rfl k) ?_
        show own_Go p e below K (s₁.setTop (mkF m 26 #[.val (.ref a1), .val (.int p2), .val (.int xn)] [(.ref a1)]))
        refine own_st (fun t k => XS.iloadN X0.here hx rfl (hb hby d4_26) rfl k) ?_
        show own_Go p e below K (s₁.setTop (mkF m 27 #[.val (.ref a1), .val (.int p2), .val (.int xn)] [(.int p2), (.ref a1)]))
        refine own_st (fun t k => XS.iconst X0.here hx rfl (hb hby d4_27) k) ?_
        show own_Go p e below K (s₁.setTop (mkF m 28 #[.val (.ref a1), .val (.int p2), .val (.int xn)] [(.int (1 : Int32)), (.int p2), (.ref a1)]))
        refine own_st (fun t k => XS.iadd X0.here hx rfl (hb hby d4_28) rfl k) ?_
        show own_Go p e below K (s₁.setTop (mkF m 29 #[.val (.ref a1), .val (.int p2), .val (.int xn)] [(.int (p2 + (1 : Int32))), (.ref a1)]))
        obtain ⟨cl3, Ar3, qa3, Sa3, Ma3, Ha3, Ga3⟩ := id P0
        have hin3 : ¬ ((p2 + (1 : Int32)) < 0 ∨ cl3.slots.size ≤ ((p2 + (1 : Int32))).toNatClampNeg) := inb_of Sa3 ⟨own_nlt (by rw [own_q1 hz0]; have := hz0.1; show (0 : Int) ≤ _; omega), hc22⟩
        refine own_st (X0.baloadBytes hx (j := (p2 + (1 : Int32))) (v := (.int (xs.getD ((p2 + (1 : Int32))).toNatClampNeg 0))) (own_hat e0 Ar3.1) (State.isArrayOf_alike hZ.alike Ar3.2.1) Ar3.2.2 hin3 (Has.at Ha3 hin3 (own_atI xs _)) (g := (mkF m 29 #[.val (.ref a1), .val (.int p2), .val (.int xn)] [(.int (p2 + (1 : Int32))), (.ref a1)])) rfl rfl (hb hby d4_29)) ?_
        show own_Go p e below K (s₁.setTop (mkF m 30 #[.val (.ref a1), .val (.int p2), .val (.int xn)] [(.int (xs.getD ((p2 + (1 : Int32))).toNatClampNeg 0))]))
        by_cases hc30 : (xs.getD ((p2 + (1 : Int32))).toNatClampNeg 0) < (0 : Int32)
        · refine own_st (fun t k => XS.ifYes X0.here hx rfl (pc0 := 30) (pc' := 37) rfl (hb hby d4_30) rfl ((if0 _ _).trans (tlt hc30).1) (by decide) (by decide) k) ?_
          show own_Go p e below K (s₁.setTop (mkF m 37 #[.val (.ref a1), .val (.int p2), .val (.int xn)] []))
          refine own_st (fun t k => XS.iloadN X0.here hx rfl (hb hby d4_37) rfl k) ?_
          show own_Go p e below K (s₁.setTop (mkF m 38 #[.val (.ref a1), .val (.int p2), .val (.int xn)] [(.int p2)]))
          refine own_st (fun t k => XS.iconst X0.here hx rfl (hb hby d4_38) k) ?_
          show own_Go p e below K (s₁.setTop (mkF m 39 #[.val (.ref a1), .val (.int p2), .val (.int xn)] [(.int (3 : Int32)), (.int p2)]))
          refine own_st (fun t k => XS.iadd X0.here hx rfl (hb hby d4_39) rfl k) ?_
          show own_Go p e below K (s₁.setTop (mkF m 40 #[.val (.ref a1), .val (.int p2), .val (.int xn)] [(.int (p2 + (3 : Int32)))]))
          obtain ⟨fs, hr, hrun, hended, hW, hsame⟩ := X0.leave (v := some (.int (p2 + (3 : Int32)))) (fun h => by rw [Bd.returns] at h; cases h)
          refine ⟨_, retI X0 hx Bd.returns (hb hby d4_40) hr, fin _ _ _ hrun hended ?_ ⟨⟨_, rfl⟩, hW, hsame.mono (by decide) (by decide)⟩⟩
          show Q4 Z a1 p2 xk xn xs h0 n0 _ s₁.heap _
          rw [e0]
          exact ⟨_, rfl, (Or.inr (Or.inr ⟨rfl, (fun q => q.2 hc11), (fun q => q.2 hc30)⟩)), N0, rfl⟩
        refine own_st (fun t k => XS.ifNo X0.here hx rfl (hb hby d4_30) rfl ((if0 _ _).trans (flt hc30).1) k) ?_
        show own_Go p e below K (s₁.setTop (mkF m 33 #[.val (.ref a1), .val (.int p2), .val (.int xn)] []))
        refine own_st (fun t k => XS.iloadN X0.here hx rfl (hb hby d4_33) rfl k) ?_
        show own_Go p e below K (s₁.setTop (mkF m 34 #[.val (.ref a1), .val (.int p2), .val (.int xn)] [(.int p2)]))
        refine own_st (fun t k => XS.iconst X0.here hx rfl (hb hby d4_34) k) ?_
        show own_Go p e below K (s₁.setTop (mkF m 35 #[.val (.ref a1), .val (.int p2), .val (.int xn)] [(.int (2 : Int32)), (.int p2)]))
        refine own_st (fun t k => XS.iadd X0.here hx rfl (hb hby d4_35) rfl k) ?_
        show own_Go p e below K (s₁.setTop (mkF m 36 #[.val (.ref a1), .val (.int p2), .val (.int xn)] [(.int (p2 + (2 : Int32)))]))
        obtain ⟨fs, hr, hrun, hended, hW, hsame⟩ := X0.leave (v := some (.int (p2 + (2 : Int32)))) (fun h => by rw [Bd.returns] at h; cases h)
        refine ⟨_, retI X0 hx Bd.returns (hb hby d4_36) hr, fin _ _ _ hrun hended ?_ ⟨⟨_, rfl⟩, hW, hsame.mono (by decide) (by decide)⟩⟩
        show Q4 Z a1 p2 xk xn xs h0 n0 _ s₁.heap _
        rw [e0]
        exact ⟨_, rfl, (Or.inr (Or.inl ⟨rfl, (fun q => q.2 hc11), hc22, hc30⟩)), N0, rfl⟩
      refine own_st (fun t k => XS.icmpYes X0.here hx rfl (pc0 := 22) (pc' := 37) rfl (hb hby d4_22) rfl (flt hc22).2.1 (by decide) (by decide) k) ?_
      show own_Go p e below K (s₁.setTop (mkF m 37 #[.val (.ref a1), .val (.int p2), .val (.int xn)] []))
      refine own_st (fun t k => XS.iloadN X0.here hx rfl (hb hby d4_37) rfl k) ?_
      show own_Go p e below K (s₁.setTop (mkF m 38 #[.val (.ref a1), .val (.int p2), .val (.int xn)] [(.int p2)]))
      refine own_st (fun t k => XS.iconst X0.here hx rfl (hb hby d4_38) k) ?_
      show own_Go p e below K (s₁.setTop (mkF m 39 #[.val (.ref a1), .val (.int p2), .val (.int xn)] [(.int (3 : Int32)), (.int p2)]))
      refine own_st (fun t k => XS.iadd X0.here hx rfl (hb hby d4_39) rfl k) ?_
      show own_Go p e below K (s₁.setTop (mkF m 40 #[.val (.ref a1), .val (.int p2), .val (.int xn)] [(.int (p2 + (3 : Int32)))]))
      obtain ⟨fs, hr, hrun, hended, hW, hsame⟩ := X0.leave (v := some (.int (p2 + (3 : Int32)))) (fun h => by rw [Bd.returns] at h; cases h)
      refine ⟨_, retI X0 hx Bd.returns (hb hby d4_40) hr, fin _ _ _ hrun hended ?_ ⟨⟨_, rfl⟩, hW, hsame.mono (by decide) (by decide)⟩⟩
      show Q4 Z a1 p2 xk xn xs h0 n0 _ s₁.heap _
      rw [e0]
      exact ⟨_, rfl, (Or.inr (Or.inr ⟨rfl, (fun q => q.2 hc11), (fun q => hc22 q.1)⟩)), N0, rfl⟩
    refine own_st (fun t k => XS.ifNo X0.here hx rfl (hb hby d4_11) rfl ((if0 _ _).trans (flt hc11).1) k) ?_
    show own_Go p e below K (s₁.setTop (mkF m 14 #[.val (.ref a1), .val (.int p2), .val (.int xn)] []))
    refine own_st (fun t k => XS.iloadN X0.here hx rfl (hb hby d4_14) rfl k) ?_
    show own_Go p e below K (s₁.setTop (mkF m 15 #[.val (.ref a1), .val (.int p2), .val (.int xn)] [(.int p2)]))
    refine own_st (fun t k => XS.iconst X0.here hx rfl (hb hby d4_15) k) ?_
    show own_Go p e below K (s₁.setTop (mkF m 16 #[.val (.ref a1), .val (.int p2), .val (.int xn)] [(.int (1 : Int32)), (.int p2)]))
    refine own_st (fun t k => XS.iadd X0.here hx rfl (hb hby d4_16) rfl k) ?_
    show own_Go p e below K (s₁.setTop (mkF m 17 #[.val (.ref a1), .val (.int p2), .val (.int xn)] [(.int (p2 + (1 : Int32)))]))
    obtain ⟨fs, hr, hrun, hended, hW, hsame⟩ := X0.leave (v := some (.int (p2 + (1 : Int32)))) (fun h => by rw [Bd.returns] at h; cases h)
    refine ⟨_, retI X0 hx Bd.returns (hb hby d4_17) hr, fin _ _ _ hrun hended ?_ ⟨⟨_, rfl⟩, hW, hsame.mono (by decide) (by decide)⟩⟩
    show Q4 Z a1 p2 xk xn xs h0 n0 _ s₁.heap _
    rw [e0]
    exact ⟨_, rfl, (Or.inl ⟨rfl, hc5, hc11⟩), N0, rfl⟩
  refine own_st (fun t k => XS.icmpYes X0.here hx rfl (pc0 := 5) (pc' := 18) rfl (hb hby d4_5) rfl (flt hc5).2.1 (by decide) (by decide) k) ?_
  show own_Go p e below K (s₁.setTop (mkF m 18 #[.val (.ref a1), .val (.int p2), .val (.int xn)] []))
  refine own_st (fun t k => XS.iloadN X0.here hx rfl (hb hby d4_18) rfl k) ?_
  show own_Go p e below K (s₁.setTop (mkF m 19 #[.val (.ref a1), .val (.int p2), .val (.int xn)] [(.int p2)]))
  refine own_st (fun t k => XS.iconst X0.here hx rfl (hb hby d4_19) k) ?_
  show own_Go p e below K (s₁.setTop (mkF m 20 #[.val (.ref a1), .val (.int p2), .val (.int xn)] [(.int (1 : Int32)), (.int p2)]))
  refine own_st (fun t k => XS.iadd X0.here hx rfl (hb hby d4_20) rfl k) ?_
  show own_Go p e below K (s₁.setTop (mkF m 21 #[.val (.ref a1), .val (.int p2), .val (.int xn)] [(.int (p2 + (1 : Int32)))]))
  refine own_st (fun t k => XS.iloadN X0.here hx rfl (hb hby d4_21) rfl k) ?_
  show own_Go p e below K (s₁.setTop (mkF m 22 #[.val (.ref a1), .val (.int p2), .val (.int xn)] [(.int xn), (.int (p2 + (1 : Int32)))]))
  by_cases hc22 : (p2 + (1 : Int32)) < xn
  · refine own_st (fun t k => XS.icmpNo X0.here hx rfl (hb hby d4_22) rfl (tlt hc22).2.1 k) ?_
    show own_Go p e below K (s₁.setTop (mkF m 25 #[.val (.ref a1), .val (.int p2), .val (.int xn)] []))
    refine own_st (fun t k => XS.aloadN X0.here hx rfl (hb hby d4_25) rfl rfl k) ?_
    show own_Go p e below K (s₁.setTop (mkF m 26 #[.val (.ref a1), .val (.int p2), .val (.int xn)] [(.ref a1)]))
    refine own_st (fun t k => XS.iloadN X0.here hx rfl (hb hby d4_26) rfl k) ?_
    show own_Go p e below K (s₁.setTop (mkF m 27 #[.val (.ref a1), .val (.int p2), .val (.int xn)] [(.int p2), (.ref a1)]))
    refine own_st (fun t k => XS.iconst X0.here hx rfl (hb hby d4_27) k) ?_
    show own_Go p e below K (s₁.setTop (mkF m 28 #[.val (.ref a1), .val (.int p2), .val (.int xn)] [(.int (1 : Int32)), (.int p2), (.ref a1)]))
    refine own_st (fun t k => XS.iadd X0.here hx rfl (hb hby d4_28) rfl k) ?_
    show own_Go p e below K (s₁.setTop (mkF m 29 #[.val (.ref a1), .val (.int p2), .val (.int xn)] [(.int (p2 + (1 : Int32))), (.ref a1)]))
    obtain ⟨cl4, Ar4, qa4, Sa4, Ma4, Ha4, Ga4⟩ := id P0
    have hin4 : ¬ ((p2 + (1 : Int32)) < 0 ∨ cl4.slots.size ≤ ((p2 + (1 : Int32))).toNatClampNeg) := inb_of Sa4 ⟨own_nlt (by rw [own_q1 hz0]; have := hz0.1; show (0 : Int) ≤ _; omega), hc22⟩
    refine own_st (X0.baloadBytes hx (j := (p2 + (1 : Int32))) (v := (.int (xs.getD ((p2 + (1 : Int32))).toNatClampNeg 0))) (own_hat e0 Ar4.1) (State.isArrayOf_alike hZ.alike Ar4.2.1) Ar4.2.2 hin4 (Has.at Ha4 hin4 (own_atI xs _)) (g := (mkF m 29 #[.val (.ref a1), .val (.int p2), .val (.int xn)] [(.int (p2 + (1 : Int32))), (.ref a1)])) rfl rfl (hb hby d4_29)) ?_
    show own_Go p e below K (s₁.setTop (mkF m 30 #[.val (.ref a1), .val (.int p2), .val (.int xn)] [(.int (xs.getD ((p2 + (1 : Int32))).toNatClampNeg 0))]))
    by_cases hc30 : (xs.getD ((p2 + (1 : Int32))).toNatClampNeg 0) < (0 : Int32)
    · refine own_st (fun t k => XS.ifYes X0.here hx rfl (pc0 := 30) (pc' := 37) rfl (hb hby d4_30) rfl ((if0 _ _).trans (tlt hc30).1) (by decide) (by decide) k) ?_
      show own_Go p e below K (s₁.setTop (mkF m 37 #[.val (.ref a1), .val (.int p2), .val (.int xn)] []))
      refine own_st (fun t k => XS.iloadN X0.here hx rfl (hb hby d4_37) rfl k) ?_
      show own_Go p e below K (s₁.setTop (mkF m 38 #[.val (.ref a1), .val (.int p2), .val (.int xn)] [(.int p2)]))
      refine own_st (fun t k => XS.iconst X0.here hx rfl (hb hby d4_38) k) ?_
      show own_Go p e below K (s₁.setTop (mkF m 39 #[.val (.ref a1), .val (.int p2), .val (.int xn)] [(.int (3 : Int32)), (.int p2)]))
      refine own_st (fun t k => XS.iadd X0.here hx rfl (hb hby d4_39) rfl k) ?_
      show own_Go p e below K (s₁.setTop (mkF m 40 #[.val (.ref a1), .val (.int p2), .val (.int xn)] [(.int (p2 + (3 : Int32)))]))
      obtain ⟨fs, hr, hrun, hended, hW, hsame⟩ := X0.leave (v := some (.int (p2 + (3 : Int32)))) (fun h => by rw [Bd.returns] at h; cases h)
      refine ⟨_, retI X0 hx Bd.returns (hb hby d4_40) hr, fin _ _ _ hrun hended ?_ ⟨⟨_, rfl⟩, hW, hsame.mono (by decide) (by decide)⟩⟩
      show Q4 Z a1 p2 xk xn xs h0 n0 _ s₁.heap _
      rw [e0]
      exact ⟨_, rfl, (Or.inr (Or.inr ⟨rfl, (fun q => hc5 q.1), (fun q => q.2 hc30)⟩)), N0, rfl⟩
    refine own_st (fun t k => XS.ifNo X0.here hx rfl (hb hby d4_30) rfl ((if0 _ _).trans (flt hc30).1) k) ?_
    show own_Go p e below K (s₁.setTop (mkF m 33 #[.val (.ref a1), .val (.int p2), .val (.int xn)] []))
    refine own_st (fun t k => XS.iloadN X0.here hx rfl (hb hby d4_33) rfl k) ?_
    show own_Go p e below K (s₁.setTop (mkF m 34 #[.val (.ref a1), .val (.int p2), .val (.int xn)] [(.int p2)]))
    refine own_st (fun t k => XS.iconst X0.here hx rfl (hb hby d4_34) k) ?_
    show own_Go p e below K (s₁.setTop (mkF m 35 #[.val (.ref a1), .val (.int p2), .val (.int xn)] [(.int (2 : Int32)), (.int p2)]))
    refine own_st (fun t k => XS.iadd X0.here hx rfl (hb hby d4_35) rfl k) ?_
    show own_Go p e below K (s₁.setTop (mkF m 36 #[.val (.ref a1), .val (.int p2), .val (.int xn)] [(.int (p2 + (2 : Int32)))]))
    obtain ⟨fs, hr, hrun, hended, hW, hsame⟩ := X0.leave (v := some (.int (p2 + (2 : Int32)))) (fun h => by rw [Bd.returns] at h; cases h)
    refine ⟨_, retI X0 hx Bd.returns (hb hby d4_36) hr, fin _ _ _ hrun hended ?_ ⟨⟨_, rfl⟩, hW, hsame.mono (by decide) (by decide)⟩⟩
    show Q4 Z a1 p2 xk xn xs h0 n0 _ s₁.heap _
    rw [e0]
    exact ⟨_, rfl, (Or.inr (Or.inl ⟨rfl, (fun q => hc5 q.1), hc22, hc30⟩)), N0, rfl⟩
  refine own_st (fun t k => XS.icmpYes X0.here hx rfl (pc0 := 22) (pc' := 37) rfl (hb hby d4_22) rfl (flt hc22).2.1 (by decide) (by decide) k) ?_
  show own_Go p e below K (s₁.setTop (mkF m 37 #[.val (.ref a1), .val (.int p2), .val (.int xn)] []))
  refine own_st (fun t k => XS.iloadN X0.here hx rfl (hb hby d4_37) rfl k) ?_
  show own_Go p e below K (s₁.setTop (mkF m 38 #[.val (.ref a1), .val (.int p2), .val (.int xn)] [(.int p2)]))
  refine own_st (fun t k => XS.iconst X0.here hx rfl (hb hby d4_38) k) ?_
  show own_Go p e below K (s₁.setTop (mkF m 39 #[.val (.ref a1), .val (.int p2), .val (.int xn)] [(.int (3 : Int32)), (.int p2)]))
  refine own_st (fun t k => XS.iadd X0.here hx rfl (hb hby d4_39) rfl k) ?_
  show own_Go p e below K (s₁.setTop (mkF m 40 #[.val (.ref a1), .val (.int p2), .val (.int xn)] [(.int (p2 + (3 : Int32)))]))
  obtain ⟨fs, hr, hrun, hended, hW, hsame⟩ := X0.leave (v := some (.int (p2 + (3 : Int32)))) (fun h => by rw [Bd.returns] at h; cases h)
  refine ⟨_, retI X0 hx Bd.returns (hb hby d4_40) hr, fin _ _ _ hrun hended ?_ ⟨⟨_, rfl⟩, hW, hsame.mono (by decide) (by decide)⟩⟩
  show Q4 Z a1 p2 xk xn xs h0 n0 _ s₁.heap _
  rw [e0]
  exact ⟨_, rfl, (Or.inr (Or.inr ⟨rfl, (fun q => hc5 q.1), (fun q => hc22 q.1)⟩)), N0, rfl⟩
theorem d5_0 : decode prog_8_method_3_code 0 = .ok (.iconst 0, 1) := by decide +kernel
theorem d5_1 : decode prog_8_method_3_code 1 = .ok (.istore_n 1, 1) := by decide +kernel
theorem d5_2 : decode prog_8_method_3_code 2 = .ok (.iconst 0, 1) := by decide +kernel
theorem d5_3 : decode prog_8_method_3_code 3 = .ok (.istore_n 2, 1) := by decide +kernel
theorem d5_4 : decode prog_8_method_3_code 4 = .ok (.aload_n 0, 1) := by decide +kernel
theorem d5_5 : decode prog_8_method_3_code 5 = .ok (.getfield 7, 3) := by decide +kernel
theorem d5_8 : decode prog_8_method_3_code 8 = .ok (.aload_n 0, 1) := by decide +kernel
theorem d5_9 : decode prog_8_method_3_code 9 = .ok (.dup, 1) := by decide +kernel
theorem d5_10 : decode prog_8_method_3_code 10 = .ok (.getfield 13, 3) := by decide +kernel
theorem d5_13 : decode prog_8_method_3_code 13 = .ok (.dup_x1, 1) := by decide +kernel
theorem d5_14 : decode prog_8_method_3_code 14 = .ok (.iconst 1, 1) := by decide +kernel
theorem d5_15 : decode prog_8_method_3_code 15 = .ok (.iadd, 1) := by decide +kernel
theorem d5_16 : decode prog_8_method_3_code 16 = .ok (.putfield 13, 3) := by decide +kernel
theorem d5_19 : decode prog_8_method_3_code 19 = .ok (.baload, 1) := by decide +kernel
theorem d5_20 : decode prog_8_method_3_code 20 = .ok (.istore_n 3, 1) := by decide +kernel
theorem d5_21 : decode prog_8_method_3_code 21 = .ok (.iload_n 1, 1) := by decide +kernel
theorem d5_22 : decode prog_8_method_3_code 22 = .ok (.iload_n 3, 1) := by decide +kernel
theorem d5_23 : decode prog_8_method_3_code 23 = .ok (.bipush 127, 2) := by decide +kernel
theorem d5_25 : decode prog_8_method_3_code 25 = .ok (.iand, 1) := by decide +kernel
theorem d5_26 : decode prog_8_method_3_code 26 = .ok (.iload_n 2, 1) := by decide +kernel
theorem d5_27 : decode prog_8_method_3_code 27 = .ok (.ishl, 1) := by decide +kernel
theorem d5_28 : decode prog_8_method_3_code 28 = .ok (.ior, 1) := by decide +kernel
theorem d5_29 : decode prog_8_method_3_code 29 = .ok (.istore_n 1, 1) := by decide +kernel
theorem d5_30 : decode prog_8_method_3_code 30 = .ok (.iinc 2 7, 3) := by decide +kernel
theorem d5_33 : decode prog_8_method_3_code 33 = .ok (.iload_n 3, 1) := by decide +kernel
theorem d5_34 : decode prog_8_method_3_code 34 = .ok (.ifCond .lt (-30), 3) := by decide +kernel
theorem d5_37 : decode prog_8_method_3_code 37 = .ok (.iload_n 1, 1) := by decide +kernel
theorem d5_38 : decode prog_8_method_3_code 38 = .ok (.ireturn, 1) := by decide +kernel
theorem pn_5 : plainName "com/example/ms2rank/ms2rank/candidate/Unpacker" = true := by first | (simp [plainName, overriddenIn]; done) | decide +kernel
theorem ef_5 (m : MethodId) (x0 : Addr) : entryFrame m #[(.ref x0)] 4 = mkF m 0 #[.val (.ref x0), .unset, .unset, .unset] [] := by first | (simp [entryFrame, mkF, argsToLocals, Value.category]; done) | rfl
def Q5 (Z : State) (a1 : Addr) (xp : Int32) (xa : Addr) (xk : ClassId) (xn : Int32) (xs : List Int32) (xi : Nat) (xe : Nat) (h0 : Heap) (n0 : Nat) (v : Option Value) (h : Heap) (L : List Loc) : Prop := ∃ (r : Int32) (xq : Int32), v = some (.int r) ∧ (r = own_acc xs (xe - xi) 0 0 xi) ∧ Fr n0 L ∧ Keep h0 h [a1] ∧ (Exa Z h a1 "com/example/ms2rank/ms2rank/candidate/Unpacker") ∧ (Fld Z h a1 "com/example/ms2rank/ms2rank/candidate/Unpacker" "packed" "[B" (.ref xa)) ∧ (Fld Z h a1 "com/example/ms2rank/ms2rank/candidate/Unpacker" "at" "I" (.int xq)) ∧ (xq.toInt = ((xe + 1 : Nat) : Int))
set_option maxRecDepth 65536 in
set_option maxHeartbeats 40000000 in
theorem rm5 (l : Launch) (Z : State) (a0 : Array Value) (hw : ∀ d ∈ tables_1, d.before a0 Z = true) (ws : List Jvm.Cond) (a1 : Addr) (xp : Int32) (xa : Addr) (xk : ClassId) (xn : Int32) (xs : List Int32) (xi : Nat) (xe : Nat) (h0 : Heap) (n0 : Nat) (Z0 : n0 ≤ h0.size) (g_a1 : n0 ≤ a1) (ne_a1_xa : a1 ≠ xa) (P0 : Exa Z h0 a1 "com/example/ms2rank/ms2rank/candidate/Unpacker") (P1 : Fld Z h0 a1 "com/example/ms2rank/ms2rank/candidate/Unpacker" "at" "I" (.int xp)) (P2 : Fld Z h0 a1 "com/example/ms2rank/ms2rank/candidate/Unpacker" "packed" "[B" (.ref xa)) (P3 : Arv Z h0 xa xk .byte xn (xs.map Value.int) (.int (0 : Int32))) (hxi : xp.toInt = (xi : Int)) (hie : xi ≤ xe) (hen : (xe : Int) < xn.toInt) (hng : ∀ j, xi ≤ j → j < xe → xs.getD j 0 < 0) (hnd : ¬ xs.getD xe 0 < 0) :
    MetFree l (⟨"com/example/ms2rank/ms2rank/candidate/Unpacker", "number", "()I"⟩ : MethodName) (head1 (Jvm.Cond.code (⟨"com/example/ms2rank/ms2rank/candidate/Unpacker", "number", "()I"⟩ : MethodName) prog_8_method_3_code 4 (some .int) :: ws) ({ frames := 0, cells := 0, slots := 0, locals := 0 } : Room)) (fun a U => a = #[(.ref a1)] ∧ Z.Warmed39 U.vm ∧ U.heap = h0) (fun _ _ _ _ _ => True) (fun _ U o U' => ∃ v L, o = .returned v ∧ Q5 Z a1 xp xa xk xn xs xi xe h0 n0 v U'.heap L ∧ FrameEnd U o U' L ({ frames := 0, cells := 0, slots := 0, locals := 0 } : Room).cells ({ frames := 0, cells := 0, slots := 0, locals := 0 } : Room).slots) := by
  refine MetFree.of_bodySF (plainFor_of_name pn_5) hisR ?_
  intro p e s m args below meth c s₁ Bd hml0 hP hK
  obtain ⟨rfl, hZ, hh⟩ := hP
  have hx := Bd.exec
  have hby := Bd.bytes
  have hml : c.maxLocals = 4 := hml0
  have hown : s.vm.findClass "com/example/ms2rank/ms2rank/candidate/Unpacker" = some m.cls := findClass_of_methodNamed Bd.named
  have hnm := (name_of_methodNamed Bd.named Bd.method).1
  have X0 : Stand p l e ({ frames := 0, cells := 0, slots := 0, locals := 0 } : Room) s m #[(.ref a1)] below meth c s₁ [] 0 0 := Stand.of_body Bd
  have e0 : s₁.heap = h0 := by rw [← hh, Bd.state]; rfl
  have N0 := Fr.nil n0
  suffices G0 : ∀ K : State → Prop, (∀ (n : State) (v : Option Value) (L : List Loc), n.status = .running → Ended n below (.returned v) → Q5 Z a1 xp xa xk xn xs xi xe h0 n0 v n.heap L → FrameEnd s (.returned v) n L ({ frames := 0, cells := 0, slots := 0, locals := 0 } : Room).cells ({ frames := 0, cells := 0, slots := 0, locals := 0 } : Room).slots → K n) → own_Go p e below K (s₁.setTop (mkF m 0 #[.val (.ref a1), .unset, .unset, .unset] [])) by
    obtain ⟨t, st, o, a, b, v, L, e1, q, fe⟩ := G0 (fun n => ∃ o, n.status = .running ∧ Ended n below o ∧ ∃ v L, o = .returned v ∧ Q5 Z a1 xp xa xk xn xs xi xe h0 n0 v n.heap L ∧ FrameEnd s o n L ({ frames := 0, cells := 0, slots := 0, locals := 0 } : Room).cells ({ frames := 0, cells := 0, slots := 0, locals := 0 } : Room).slots) (fun n v L a b q f => ⟨_, a, b, v, L, rfl, q, f⟩)
    exact ⟨t, o, castTop (ef_5 m a1) st, a, b, v, L, e1, q, fe⟩
  intro K fin
  show own_Go p e below K (s₁.setTop (mkF m 0 #[.val (.ref a1), .unset, .unset, .unset] []))
  refine own_st (fun t k => XS.iconst X0.here hx rfl (hb hby d5_0) k) ?_
  show own_Go p e below K (s₁.setTop (mkF m 1 #[.val (.ref a1), .unset, .unset, .unset] [(.int (0 : Int32))]))
  refine own_st (fun t k => XS.istoreN X0.here hx rfl (hb hby d5_1) rfl (l' := #[.val (.ref a1), .val (.int (0 : Int32)), .unset, .unset]) rfl k) ?_
  show own_Go p e below K (s₁.setTop (mkF m 2 #[.val (.ref a1), .val (.int (0 : Int32)), .unset, .unset] []))
  refine own_st (fun t k => XS.iconst X0.here hx rfl (hb hby d5_2) k) ?_
  show own_Go p e below K (s₁.setTop (mkF m 3 #[.val (.ref a1), .val (.int (0 : Int32)), .unset, .unset] [(.int (0 : Int32))]))
  refine own_st (fun t k => XS.istoreN X0.here hx rfl (hb hby d5_3) rfl (l' := #[.val (.ref a1), .val (.int (0 : Int32)), .val (.int (0 : Int32)), .unset]) rfl k) ?_
  show own_Go p e below K (s₁.setTop (mkF m 4 #[.val (.ref a1), .val (.int (0 : Int32)), .val (.int (0 : Int32)), .unset] []))
  refine own_st (fun t k => XS.aloadN X0.here hx rfl (hb hby d5_4) rfl rfl k) ?_
  show own_Go p e below K (s₁.setTop (mkF m 5 #[.val (.ref a1), .val (.int (0 : Int32)), .val (.int (0 : Int32)), .unset] [(.ref a1)]))
  obtain ⟨T1, X1, e1, st1⟩ := getF X0 hx hZ hown (host := "") (Or.inl (hw _ (List.mem_of_getElem? (i := 10) rfl))) Via.refl e0 P2 (g := (mkF m 5 #[.val (.ref a1), .val (.int (0 : Int32)), .val (.int (0 : Int32)), .unset] [(.ref a1)])) rfl rfl (hb hby d5_5)
  refine own_st st1 ?_
  show own_Go p e below K (T1.setTop (mkF m 8 #[.val (.ref a1), .val (.int (0 : Int32)), .val (.int (0 : Int32)), .unset] [(.ref xa)]))
  try clear st1
  refine own_st (fun t k => XS.aloadN X1.here hx rfl (hb hby d5_8) rfl rfl k) ?_
  show own_Go p e below K (T1.setTop (mkF m 9 #[.val (.ref a1), .val (.int (0 : Int32)), .val (.int (0 : Int32)), .unset] [(.ref a1), (.ref xa)]))
  refine own_st (fun t k => XS.dup X1.here hx rfl (hb hby d5_9) rfl rfl k) ?_
  show own_Go p e below K (T1.setTop (mkF m 10 #[.val (.ref a1), .val (.int (0 : Int32)), .val (.int (0 : Int32)), .unset] [(.ref a1), (.ref a1), (.ref xa)]))
  obtain ⟨T2, X2, e2, st2⟩ := getF X1 hx hZ hown (host := "") (Or.inl (hw _ (List.mem_of_getElem? (i := 17) rfl))) Via.refl e1 P1 (g := (mkF m 10 #[.val (.ref a1), .val (.int (0 : Int32)), .val (.int (0 : Int32)), .unset] [(.ref a1), (.ref a1), (.ref xa)])) rfl rfl (hb hby d5_10)
  refine own_st st2 ?_
  show own_Go p e below K (T2.setTop (mkF m 13 #[.val (.ref a1), .val (.int (0 : Int32)), .val (.int (0 : Int32)), .unset] [(.int xp), (.ref a1), (.ref xa)]))
  try clear X1 e1 st2
  refine own_st (fun t k => XS.dupX1 X2.here hx rfl (hb hby d5_13) rfl rfl rfl k) ?_
  show own_Go p e below K (T2.setTop (mkF m 14 #[.val (.ref a1), .val (.int (0 : Int32)), .val (.int (0 : Int32)), .unset] [(.int xp), (.ref a1), (.int xp), (.ref xa)]))
  refine own_st (fun t k => XS.iconst X2.here hx rfl (hb hby d5_14) k) ?_
  show own_Go p e below K (T2.setTop (mkF m 15 #[.val (.ref a1), .val (.int (0 : Int32)), .val (.int (0 : Int32)), .unset] [(.int (1 : Int32)), (.int xp), (.ref a1), (.int xp), (.ref xa)]))
  refine own_st (fun t k => XS.iadd X2.here hx rfl (hb hby d5_15) rfl k) ?_
  show own_Go p e below K (T2.setTop (mkF m 16 #[.val (.ref a1), .val (.int (0 : Int32)), .val (.int (0 : Int32)), .unset] [(.int (xp + (1 : Int32))), (.ref a1), (.int xp), (.ref xa)]))
  obtain ⟨T3, h3, X3, e3, W3, st3⟩ := putF X2 hx hZ hown (host := "") (Or.inl (hw _ (List.mem_of_getElem? (i := 17) rfl))) Via.refl e2 P1 P0 (Or.inl (hw _ (List.mem_of_getElem? (i := 18) rfl))) (hw _ (List.mem_of_getElem? (i := 2) rfl)) (ty := .int) (by decide) rfl rfl (g := (mkF m 16 #[.val (.ref a1), .val (.int (0 : Int32)), .val (.int (0 : Int32)), .unset] [(.int (xp + (1 : Int32))), (.ref a1), (.int xp), (.ref xa)])) rfl rfl (hb hby d5_16)
  have fw3 : Fld Z h3 a1 "com/example/ms2rank/ms2rank/candidate/Unpacker" "at" "I" (.int (xp + (1 : Int32))) := P1.same W3
  have f4 : Exa Z h3 a1 "com/example/ms2rank/ms2rank/candidate/Unpacker" := P0.wr W3
  have f5 : Fld Z h3 a1 "com/example/ms2rank/ms2rank/candidate/Unpacker" "packed" "[B" (.ref xa) := P2.other W3 (Or.inr (slot_ne (Or.inr (hw _ (List.mem_of_getElem? (i := 11) rfl))) (Or.inl (hw _ (List.mem_of_getElem? (i := 18) rfl))) (by decide) (t := (.array .byte)) (t' := .int) (by decide) (by decide)))
  have f6 : Arv Z h3 xa xk .byte xn (xs.map Value.int) (.int (0 : Int32)) := P3.other W3 (Ne.symm ne_a1_xa)
  have N3 := Fr.snoc X3 N0 g_a1
  have Z3 : n0 ≤ h3.size := Nat.le_trans Z0 (Keep.of_wr W3).1
  have K3 : Keep h0 h3 [a1] := (Keep.refl h0 [a1]).wr W3 (Or.inl (List.mem_of_getElem? (i := 0) rfl))
  refine own_st st3 ?_
  show own_Go p e below K (T3.setTop (mkF m 19 #[.val (.ref a1), .val (.int (0 : Int32)), .val (.int (0 : Int32)), .unset] [(.int xp), (.ref xa)]))
  try clear X2 e2 st3 P0 P2 P3
  obtain ⟨cl7, Ar7, qa7, Sa7, Ma7, Ha7, Ga7⟩ := id f6
  have hin7 : ¬ (xp < 0 ∨ cl7.slots.size ≤ (xp).toNatClampNeg) := inb_of Sa7 ⟨own_nlt (by rw [hxi]; show (0 : Int) ≤ _; omega), own_lt (by rw [hxi]; omega)⟩
  refine own_st (X3.baloadBytes hx (j := xp) (v := (.int (xs.getD (xp).toNatClampNeg 0))) (own_hat e3 Ar7.1) (State.isArrayOf_alike hZ.alike Ar7.2.1) Ar7.2.2 hin7 (Has.at Ha7 hin7 (own_atI xs _)) (g := (mkF m 19 #[.val (.ref a1), .val (.int (0 : Int32)), .val (.int (0 : Int32)), .unset] [(.int xp), (.ref xa)])) rfl rfl (hb hby d5_19)) ?_
  show own_Go p e below K (T3.setTop (mkF m 20 #[.val (.ref a1), .val (.int (0 : Int32)), .val (.int (0 : Int32)), .unset] [(.int (xs.getD (xp).toNatClampNeg 0))]))
  refine own_st (fun t k => XS.istoreN X3.here hx rfl (hb hby d5_20) rfl (l' := #[.val (.ref a1), .val (.int (0 : Int32)), .val (.int (0 : Int32)), .val (.int (xs.getD (xp).toNatClampNeg 0))]) rfl k) ?_
  show own_Go p e below K (T3.setTop (mkF m 21 #[.val (.ref a1), .val (.int (0 : Int32)), .val (.int (0 : Int32)), .val (.int (xs.getD (xp).toNatClampNeg 0))] []))
  refine own_st (fun t k => XS.iloadN X3.here hx rfl (hb hby d5_21) rfl k) ?_
  show own_Go p e below K (T3.setTop (mkF m 22 #[.val (.ref a1), .val (.int (0 : Int32)), .val (.int (0 : Int32)), .val (.int (xs.getD (xp).toNatClampNeg 0))] [(.int (0 : Int32))]))
  refine own_st (fun t k => XS.iloadN X3.here hx rfl (hb hby d5_22) rfl k) ?_
  show own_Go p e below K (T3.setTop (mkF m 23 #[.val (.ref a1), .val (.int (0 : Int32)), .val (.int (0 : Int32)), .val (.int (xs.getD (xp).toNatClampNeg 0))] [(.int (xs.getD (xp).toNatClampNeg 0)), (.int (0 : Int32))]))
  refine own_st (fun t k => XS.bipush X3.here hx rfl (hb hby d5_23) k) ?_
  show own_Go p e below K (T3.setTop (mkF m 25 #[.val (.ref a1), .val (.int (0 : Int32)), .val (.int (0 : Int32)), .val (.int (xs.getD (xp).toNatClampNeg 0))] [(.int (127 : Int32)), (.int (xs.getD (xp).toNatClampNeg 0)), (.int (0 : Int32))]))
  refine own_st (fun t k => XS.iand X3.here hx rfl (hb hby d5_25) rfl k) ?_
  show own_Go p e below K (T3.setTop (mkF m 26 #[.val (.ref a1), .val (.int (0 : Int32)), .val (.int (0 : Int32)), .val (.int (xs.getD (xp).toNatClampNeg 0))] [(.int ((xs.getD (xp).toNatClampNeg 0) &&& (127 : Int32))), (.int (0 : Int32))]))
  refine own_st (fun t k => XS.iloadN X3.here hx rfl (hb hby d5_26) rfl k) ?_
  show own_Go p e below K (T3.setTop (mkF m 27 #[.val (.ref a1), .val (.int (0 : Int32)), .val (.int (0 : Int32)), .val (.int (xs.getD (xp).toNatClampNeg 0))] [(.int (0 : Int32)), (.int ((xs.getD (xp).toNatClampNeg 0) &&& (127 : Int32))), (.int (0 : Int32))]))
  refine own_st (fun t k => XS.ishl X3.here hx rfl (hb hby d5_27) rfl k) ?_
  show own_Go p e below K (T3.setTop (mkF m 28 #[.val (.ref a1), .val (.int (0 : Int32)), .val (.int (0 : Int32)), .val (.int (xs.getD (xp).toNatClampNeg 0))] [(.int (((xs.getD (xp).toNatClampNeg 0) &&& (127 : Int32)) <<< ((0 : Int32) &&& 31))), (.int (0 : Int32))]))
  refine own_st (fun t k => XS.ior X3.here hx rfl (hb hby d5_28) rfl k) ?_
  show own_Go p e below K (T3.setTop (mkF m 29 #[.val (.ref a1), .val (.int (0 : Int32)), .val (.int (0 : Int32)), .val (.int (xs.getD (xp).toNatClampNeg 0))] [(.int ((0 : Int32) ||| (((xs.getD (xp).toNatClampNeg 0) &&& (127 : Int32)) <<< ((0 : Int32) &&& 31))))]))
  refine own_st (fun t k => XS.istoreN X3.here hx rfl (hb hby d5_29) rfl (l' := #[.val (.ref a1), .val (.int ((0 : Int32) ||| (((xs.getD (xp).toNatClampNeg 0) &&& (127 : Int32)) <<< ((0 : Int32) &&& 31)))), .val (.int (0 : Int32)), .val (.int (xs.getD (xp).toNatClampNeg 0))]) rfl k) ?_
  show own_Go p e below K (T3.setTop (mkF m 30 #[.val (.ref a1), .val (.int ((0 : Int32) ||| (((xs.getD (xp).toNatClampNeg 0) &&& (127 : Int32)) <<< ((0 : Int32) &&& 31)))), .val (.int (0 : Int32)), .val (.int (xs.getD (xp).toNatClampNeg 0))] []))
  refine own_st (fun t k => XS.iinc X3.here hx rfl (hb hby d5_30) rfl (l' := #[.val (.ref a1), .val (.int ((0 : Int32) ||| (((xs.getD (xp).toNatClampNeg 0) &&& (127 : Int32)) <<< ((0 : Int32) &&& 31)))), .val (.int ((0 : Int32) + (7 : Int32))), .val (.int (xs.getD (xp).toNatClampNeg 0))]) rfl k) ?_
  show own_Go p e below K (T3.setTop (mkF m 33 #[.val (.ref a1), .val (.int ((0 : Int32) ||| (((xs.getD (xp).toNatClampNeg 0) &&& (127 : Int32)) <<< ((0 : Int32) &&& 31)))), .val (.int ((0 : Int32) + (7 : Int32))), .val (.int (xs.getD (xp).toNatClampNeg 0))] []))
  rw [show ((0 : Int32) + (7 : Int32)) = (7 : Int32) from by decide]
  show own_Go p e below K (T3.setTop (mkF m 33 #[.val (.ref a1), .val (.int ((0 : Int32) ||| (((xs.getD (xp).toNatClampNeg 0) &&& (127 : Int32)) <<< ((0 : Int32) &&& 31)))), .val (.int (7 : Int32)), .val (.int (xs.getD (xp).toNatClampNeg 0))] []))
  refine own_st (fun t k => XS.iloadN X3.here hx rfl (hb hby d5_33) rfl k) ?_
  show own_Go p e below K (T3.setTop (mkF m 34 #[.val (.ref a1), .val (.int ((0 : Int32) ||| (((xs.getD (xp).toNatClampNeg 0) &&& (127 : Int32)) <<< ((0 : Int32) &&& 31)))), .val (.int (7 : Int32)), .val (.int (xs.getD (xp).toNatClampNeg 0))] [(.int (xs.getD (xp).toNatClampNeg 0))]))
  by_cases hc34 : (xs.getD (xp).toNatClampNeg 0) < (0 : Int32)
  · refine own_st (fun t k => XS.ifYes X3.here hx rfl (pc0 := 34) (pc' := 4) rfl (hb hby d5_34) rfl ((if0 _ _).trans (tlt hc34).1) (by decide) (by decide) k) ?_
    show own_Go p e below K (T3.setTop (mkF m 4 #[.val (.ref a1), .val (.int ((0 : Int32) ||| (((xs.getD (xp).toNatClampNeg 0) &&& (127 : Int32)) <<< ((0 : Int32) &&& 31)))), .val (.int (7 : Int32)), .val (.int (xs.getD (xp).toNatClampNeg 0))] []))
    have Lp4 : ∀ k : Nat, ∀ (T' : State) (locs' : List Loc) (h' : Heap) (vv : Int32) (sh : Int32) (bb : Int32) (ip : Int32) (ij : Nat) (X' : Stand p l e ({ frames := 0, cells := 0, slots := 0, locals := 0 } : Room) s m #[(.ref a1)] below meth c T' locs' 0 0) (e' : T'.heap = h') (N' : Fr n0 locs') (Z' : n0 ≤ h'.size) (K' : Keep h0 h' [a1]) (F0' : Exa Z h' a1 "com/example/ms2rank/ms2rank/candidate/Unpacker") (F1' : Fld Z h' a1 "com/example/ms2rank/ms2rank/candidate/Unpacker" "at" "I" (.int ip)) (F2' : Fld Z h' a1 "com/example/ms2rank/ms2rank/candidate/Unpacker" "packed" "[B" (.ref xa)) (F3' : Arv Z h' xa xk .byte xn (xs.map Value.int) (.int (0 : Int32))), (0 < k ∧ xe - ij < k ∧ ip.toInt = (ij : Int) ∧ xi ≤ ij ∧ ij ≤ xe ∧ own_acc xs (xe - ij) vv sh ij = own_acc xs (xe - xi) 0 0 xi) → own_Go p e below K (T'.setTop (mkF m 4 #[.val (.ref a1), .val (.int vv), .val (.int sh), .val (.int bb)] [])) := by
      intro k
      induction k with
      | zero =>
        intro T9 locs9 hh9 vv sh bb ip ij X9 e9 N9 Z9 K9 F9_0 F9_1 F9_2 F9_3 hi4
        exact absurd hi4.1 (Nat.lt_irrefl 0)
      | succ k ih =>
        intro T10 locs10 hh10 vv sh bb ip ij X10 e10 N10 Z10 K10 F10_0 F10_1 F10_2 F10_3 hi4
        obtain ⟨i1, i2, i3, i4, i5, i6⟩ := hi4
        refine own_st (fun t k => XS.aloadN X10.here hx rfl (hb hby d5_4) rfl rfl k) ?_
        show own_Go p e below K (T10.setTop (mkF m 5 #[.val (.ref a1), .val (.int vv), .val (.int sh), .val (.int bb)] [(.ref a1)]))
        obtain ⟨T11, X11, e11, st11⟩ := getF X10 hx hZ hown (host := "") (Or.inl (hw _ (List.mem_of_getElem? (i := 10) rfl))) Via.refl e10 F10_2 (g := (mkF m 5 #[.val (.ref a1), .val (.int vv), .val (.int sh), .val (.int bb)] [(.ref a1)])) rfl rfl (hb hby d5_5)
        refine own_st st11 ?_
        show own_Go p e below K (T11.setTop (mkF m 8 #[.val (.ref a1), .val (.int vv), .val (.int sh), .val (.int bb)] [(.ref xa)]))
        try clear X10 e10 st11
        refine own_st (fun t k => XS.aloadN X11.here hx rfl (hb hby d5_8) rfl rfl k) ?_
        show own_Go p e below K (T11.setTop (mkF m 9 #[.val (.ref a1), .val (.int vv), .val (.int sh), .val (.int bb)] [(.ref a1), (.ref xa)]))
        refine own_st (fun t k => XS.dup X11.here hx rfl (hb hby d5_9) rfl rfl k) ?_
        show own_Go p e below K (T11.setTop (mkF m 10 #[.val (.ref a1), .val (.int vv), .val (.int sh), .val (.int bb)] [(.ref a1), (.ref a1), (.ref xa)]))
        obtain ⟨T12, X12, e12, st12⟩ := getF X11 hx hZ hown (host := "") (Or.inl (hw _ (List.mem_of_getElem? (i := 17) rfl))) Via.refl e11 F10_1 (g := (mkF m 10 #[.val (.ref a1), .val (.int vv), .val (.int sh), .val (.int bb)] [(.ref a1), (.ref a1), (.ref xa)])) rfl rfl (hb hby d5_10)
        refine own_st st12 ?_
        show own_Go p e below K (T12.setTop (mkF m 13 #[.val (.ref a1), .val (.int vv), .val (.int sh), .val (.int bb)] [(.int ip), (.ref a1), (.ref xa)]))
        try clear X11 e11 st12
        refine own_st (fun t k => XS.dupX1 X12.here hx rfl (hb hby d5_13) rfl rfl rfl k) ?_
        show own_Go p e below K (T12.setTop (mkF m 14 #[.val (.ref a1), .val (.int vv), .val (.int sh), .val (.int bb)] [(.int ip), (.ref a1), (.int ip), (.ref xa)]))
        refine own_st (fun t k => XS.iconst X12.here hx rfl (hb hby d5_14) k) ?_
        show own_Go p e below K (T12.setTop (mkF m 15 #[.val (.ref a1), .val (.int vv), .val (.int sh), .val (.int bb)] [(.int (1 : Int32)), (.int ip), (.ref a1), (.int ip), (.ref xa)]))
        refine own_st (fun t k => XS.iadd X12.here hx rfl (hb hby d5_15) rfl k) ?_
        show own_Go p e below K (T12.setTop (mkF m 16 #[.val (.ref a1), .val (.int vv), .val (.int sh), .val (.int bb)] [(.int (ip + (1 : Int32))), (.ref a1), (.int ip), (.ref xa)]))
        obtain ⟨T13, h13, X13, e13, W13, st13⟩ := putF X12 hx hZ hown (host := "") (Or.inl (hw _ (List.mem_of_getElem? (i := 17) rfl))) Via.refl e12 F10_1 F10_0 (Or.inl (hw _ (List.mem_of_getElem? (i := 18) rfl))) (hw _ (List.mem_of_getElem? (i := 2) rfl)) (ty := .int) (by decide) rfl rfl (g := (mkF m 16 #[.val (.ref a1), .val (.int vv), .val (.int sh), .val (.int bb)] [(.int (ip + (1 : Int32))), (.ref a1), (.int ip), (.ref xa)])) rfl rfl (hb hby d5_16)
        have fw13 : Fld Z h13 a1 "com/example/ms2rank/ms2rank/candidate/Unpacker" "at" "I" (.int (ip + (1 : Int32))) := F10_1.same W13
        have f14 : Exa Z h13 a1 "com/example/ms2rank/ms2rank/candidate/Unpacker" := F10_0.wr W13
        have f15 : Fld Z h13 a1 "com/example/ms2rank/ms2rank/candidate/Unpacker" "packed" "[B" (.ref xa) := F10_2.other W13 (Or.inr (slot_ne (Or.inr (hw _ (List.mem_of_getElem? (i := 11) rfl))) (Or.inl (hw _ (List.mem_of_getElem? (i := 18) rfl))) (by decide) (t := (.array .byte)) (t' := .int) (by decide) (by decide)))
        have f16 : Arv Z h13 xa xk .byte xn (xs.map Value.int) (.int (0 : Int32)) := F10_3.other W13 (Ne.symm ne_a1_xa)
        have N13 := Fr.snoc X13 N10 g_a1
        have Z13 : n0 ≤ h13.size := Nat.le_trans Z10 (Keep.of_wr W13).1
        have K13 : Keep h0 h13 [a1] := K10.wr W13 (Or.inl (List.mem_of_getElem? (i := 0) rfl))
        refine own_st st13 ?_
        show own_Go p e below K (T13.setTop (mkF m 19 #[.val (.ref a1), .val (.int vv), .val (.int sh), .val (.int bb)] [(.int ip), (.ref xa)]))
        try clear X12 e12 st13 F10_0 F10_2 F10_3
        obtain ⟨cl17, Ar17, qa17, Sa17, Ma17, Ha17, Ga17⟩ := id f16
        have hin17 : ¬ (ip < 0 ∨ cl17.slots.size ≤ (ip).toNatClampNeg) := inb_of Sa17 ⟨own_nlt (by rw [i3]; show (0 : Int) ≤ _; omega), own_lt (by rw [i3]; omega)⟩
        refine own_st (X13.baloadBytes hx (j := ip) (v := (.int (xs.getD (ip).toNatClampNeg 0))) (own_hat e13 Ar17.1) (State.isArrayOf_alike hZ.alike Ar17.2.1) Ar17.2.2 hin17 (Has.at Ha17 hin17 (own_atI xs _)) (g := (mkF m 19 #[.val (.ref a1), .val (.int vv), .val (.int sh), .val (.int bb)] [(.int ip), (.ref xa)])) rfl rfl (hb hby d5_19)) ?_
        show own_Go p e below K (T13.setTop (mkF m 20 #[.val (.ref a1), .val (.int vv), .val (.int sh), .val (.int bb)] [(.int (xs.getD (ip).toNatClampNeg 0))]))
        refine own_st (fun t k => XS.istoreN X13.here hx rfl (hb hby d5_20) rfl (l' := #[.val (.ref a1), .val (.int vv), .val (.int sh), .val (.int (xs.getD (ip).toNatClampNeg 0))]) rfl k) ?_
        show own_Go p e below K (T13.setTop (mkF m 21 #[.val (.ref a1), .val (.int vv), .val (.int sh), .val (.int (xs.getD (ip).toNatClampNeg 0))] []))
        refine own_st (fun t k => XS.iloadN X13.here hx rfl (hb hby d5_21) rfl k) ?_
        show own_Go p e below K (T13.setTop (mkF m 22 #[.val (.ref a1), .val (.int vv), .val (.int sh), .val (.int (xs.getD (ip).toNatClampNeg 0))] [(.int vv)]))
        refine own_st (fun t k => XS.iloadN X13.here hx rfl (hb hby d5_22) rfl k) ?_
        show own_Go p e below K (T13.setTop (mkF m 23 #[.val (.ref a1), .val (.int vv), .val (.int sh), .val (.int (xs.getD (ip).toNatClampNeg 0))] [(.int (xs.getD (ip).toNatClampNeg 0)), (.int vv)]))
        refine own_st (fun t k => XS.bipush X13.here hx rfl (hb hby d5_23) k) ?_
        show own_Go p e below K (T13.setTop (mkF m 25 #[.val (.ref a1), .val (.int vv), .val (.int sh), .val (.int (xs.getD (ip).toNatClampNeg 0))] [(.int (127 : Int32)), (.int (xs.getD (ip).toNatClampNeg 0)), (.int vv)]))
        refine own_st (fun t k => XS.iand X13.here hx rfl (hb hby d5_25) rfl k) ?_
        show own_Go p e below K (T13.setTop (mkF m 26 #[.val (.ref a1), .val (.int vv), .val (.int sh), .val (.int (xs.getD (ip).toNatClampNeg 0))] [(.int ((xs.getD (ip).toNatClampNeg 0) &&& (127 : Int32))), (.int vv)]))
        refine own_st (fun t k => XS.iloadN X13.here hx rfl (hb hby d5_26) rfl k) ?_
        show own_Go p e below K (T13.setTop (mkF m 27 #[.val (.ref a1), .val (.int vv), .val (.int sh), .val (.int (xs.getD (ip).toNatClampNeg 0))] [(.int sh), (.int ((xs.getD (ip).toNatClampNeg 0) &&& (127 : Int32))), (.int vv)]))
        refine own_st (fun t k => XS.ishl X13.here hx rfl (hb hby d5_27) rfl k) ?_
        show own_Go p e below K (T13.setTop (mkF m 28 #[.val (.ref a1), .val (.int vv), .val (.int sh), .val (.int (xs.getD (ip).toNatClampNeg 0))] [(.int (((xs.getD (ip).toNatClampNeg 0) &&& (127 : Int32)) <<< (sh &&& 31))), (.int vv)]))
        refine own_st (fun t k => XS.ior X13.here hx rfl (hb hby d5_28) rfl k) ?_
        show own_Go p e below K (T13.setTop (mkF m 29 #[.val (.ref a1), .val (.int vv), .val (.int sh), .val (.int (xs.getD (ip).toNatClampNeg 0))] [(.int (vv ||| (((xs.getD (ip).toNatClampNeg 0) &&& (127 : Int32)) <<< (sh &&& 31))))]))
        refine own_st (fun t k => XS.istoreN X13.here hx rfl (hb hby d5_29) rfl (l' := #[.val (.ref a1), .val (.int (vv ||| (((xs.getD (ip).toNatClampNeg 0) &&& (127 : Int32)) <<< (sh &&& 31)))), .val (.int sh), .val (.int (xs.getD (ip).toNatClampNeg 0))]) rfl k) ?_
        show own_Go p e below K (T13.setTop (mkF m 30 #[.val (.ref a1), .val (.int (vv ||| (((xs.getD (ip).toNatClampNeg 0) &&& (127 : Int32)) <<< (sh &&& 31)))), .val (.int sh), .val (.int (xs.getD (ip).toNatClampNeg 0))] []))
        refine own_st (fun t k => XS.iinc X13.here hx rfl (hb hby d5_30) rfl (l' := #[.val (.ref a1), .val (.int (vv ||| (((xs.getD (ip).toNatClampNeg 0) &&& (127 : Int32)) <<< (sh &&& 31)))), .val (.int (sh + (7 : Int32))), .val (.int (xs.getD (ip).toNatClampNeg 0))]) rfl k) ?_
        show own_Go p e below K (T13.setTop (mkF m 33 #[.val (.ref a1), .val (.int (vv ||| (((xs.getD (ip).toNatClampNeg 0) &&& (127 : Int32)) <<< (sh &&& 31)))), .val (.int (sh + (7 : Int32))), .val (.int (xs.getD (ip).toNatClampNeg 0))] []))
        refine own_st (fun t k => XS.iloadN X13.here hx rfl (hb hby d5_33) rfl k) ?_
        show own_Go p e below K (T13.setTop (mkF m 34 #[.val (.ref a1), .val (.int (vv ||| (((xs.getD (ip).toNatClampNeg 0) &&& (127 : Int32)) <<< (sh &&& 31)))), .val (.int (sh + (7 : Int32))), .val (.int (xs.getD (ip).toNatClampNeg 0))] [(.int (xs.getD (ip).toNatClampNeg 0))]))
        by_cases hc34_1 : (xs.getD (ip).toNatClampNeg 0) < (0 : Int32)
        · refine own_st (fun t k => XS.ifYes X13.here hx rfl (pc0 := 34) (pc' := 4) rfl (hb hby d5_34) rfl ((if0 _ _).trans (tlt hc34_1).1) (by decide) (by decide) k) ?_
          show own_Go p e below K (T13.setTop (mkF m 4 #[.val (.ref a1), .val (.int (vv ||| (((xs.getD (ip).toNatClampNeg 0) &&& (127 : Int32)) <<< (sh &&& 31)))), .val (.int (sh + (7 : Int32))), .val (.int (xs.getD (ip).toNatClampNeg 0))] []))
          exact ih T13 _ _ ((vv ||| (((xs.getD (ip).toNatClampNeg 0) &&& (127 : Int32)) <<< (sh &&& 31)))) ((sh + (7 : Int32))) ((xs.getD (ip).toNatClampNeg 0)) ((ip + (1 : Int32))) (ij + 1) X13 e13 N13 Z13 K13 f14 fw13 f15 f16 ⟨by have := own_isnt i3 i5 hnd hc34_1; omega, by have := own_isnt i3 i5 hnd hc34_1; omega, own_p1 (n := xn) i3 (by omega), by omega, own_isnt i3 i5 hnd hc34_1, (own_nx i3 (own_isnt i3 i5 hnd hc34_1)).symm.trans i6⟩
        refine own_st (fun t k => XS.ifNo X13.here hx rfl (hb hby d5_34) rfl ((if0 _ _).trans (flt hc34_1).1) k) ?_
        show own_Go p e below K (T13.setTop (mkF m 37 #[.val (.ref a1), .val (.int (vv ||| (((xs.getD (ip).toNatClampNeg 0) &&& (127 : Int32)) <<< (sh &&& 31)))), .val (.int (sh + (7 : Int32))), .val (.int (xs.getD (ip).toNatClampNeg 0))] []))
        refine own_st (fun t k => XS.iloadN X13.here hx rfl (hb hby d5_37) rfl k) ?_
        show own_Go p e below K (T13.setTop (mkF m 38 #[.val (.ref a1), .val (.int (vv ||| (((xs.getD (ip).toNatClampNeg 0) &&& (127 : Int32)) <<< (sh &&& 31)))), .val (.int (sh + (7 : Int32))), .val (.int (xs.getD (ip).toNatClampNeg 0))] [(.int (vv ||| (((xs.getD (ip).toNatClampNeg 0) &&& (127 : Int32)) <<< (sh &&& 31))))]))
        obtain ⟨fs, hr, hrun, hended, hW, hsame⟩ := X13.leave (v := some (.int (vv ||| (((xs.getD (ip).toNatClampNeg 0) &&& (127 : Int32)) <<< (sh &&& 31))))) (fun h => by rw [Bd.returns] at h; cases h)
        refine ⟨_, retI X13 hx Bd.returns (hb hby d5_38) hr, fin _ _ _ hrun hended ?_ ⟨⟨_, rfl⟩, hW, hsame.mono (by decide) (by decide)⟩⟩
        show Q5 Z a1 xp xa xk xn xs xi xe h0 n0 _ T13.heap _
        rw [e13]
        exact ⟨_, (ip + (1 : Int32)), rfl, (by have e := own_is i3 i5 (fun j a b => hng j (by omega) b) hc34_1; subst e; exact (own_last i3).trans i6), N13, K13, f14, f15, fw13, (by have e := own_is i3 i5 (fun j a b => hng j (by omega) b) hc34_1; subst e; exact own_p1 i3 hen)⟩
    exact Lp4 (xe + 1) T3 _ _ (((0 : Int32) ||| (((xs.getD (xp).toNatClampNeg 0) &&& (127 : Int32)) <<< ((0 : Int32) &&& 31)))) ((7 : Int32)) ((xs.getD (xp).toNatClampNeg 0)) ((xp + (1 : Int32))) (xi + 1) X3 e3 N3 Z3 K3 f4 fw3 f5 f6 ⟨Nat.succ_pos _, by omega, own_p1 (n := xn) hxi (by omega), by omega, by have := own_isnt hxi hie hnd hc34; omega, (own_nx hxi (own_isnt hxi hie hnd hc34)).symm⟩
  refine own_st (fun t k => XS.ifNo X3.here hx rfl (hb hby d5_34) rfl ((if0 _ _).trans (flt hc34).1) k) ?_
  show own_Go p e below K (T3.setTop (mkF m 37 #[.val (.ref a1), .val (.int ((0 : Int32) ||| (((xs.getD (xp).toNatClampNeg 0) &&& (127 : Int32)) <<< ((0 : Int32) &&& 31)))), .val (.int (7 : Int32)), .val (.int (xs.getD (xp).toNatClampNeg 0))] []))
  refine own_st (fun t k => XS.iloadN X3.here hx rfl (hb hby d5_37) rfl k) ?_
  show own_Go p e below K (T3.setTop (mkF m 38 #[.val (.ref a1), .val (.int ((0 : Int32) ||| (((xs.getD (xp).toNatClampNeg 0) &&& (127 : Int32)) <<< ((0 : Int32) &&& 31)))), .val (.int (7 : Int32)), .val (.int (xs.getD (xp).toNatClampNeg 0))] [(.int ((0 : Int32) ||| (((xs.getD (xp).toNatClampNeg 0) &&& (127 : Int32)) <<< ((0 : Int32) &&& 31))))]))
  obtain ⟨fs, hr, hrun, hended, hW, hsame⟩ := X3.leave (v := some (.int ((0 : Int32) ||| (((xs.getD (xp).toNatClampNeg 0) &&& (127 : Int32)) <<< ((0 : Int32) &&& 31))))) (fun h => by rw [Bd.returns] at h; cases h)
  refine ⟨_, retI X3 hx Bd.returns (hb hby d5_38) hr, fin _ _ _ hrun hended ?_ ⟨⟨_, rfl⟩, hW, hsame.mono (by decide) (by decide)⟩⟩
  show Q5 Z a1 xp xa xk xn xs xi xe h0 n0 _ T3.heap _
  rw [e3]
  exact ⟨_, (xp + (1 : Int32)), rfl, (by have e := own_is hxi hie hng hc34; subst e; exact own_last hxi), N3, K3, f4, f5, fw3, (by have e := own_is hxi hie hng hc34; subst e; exact own_p1 hxi hen)⟩
theorem pn_0 : plainName "com/example/ms2rank/ms2rank/candidate/UnpackerAtEndPinLaw" = true := by first | (simp [plainName, overriddenIn]; done) | decide +kernel
theorem pd_0_0 : parseMethodDescriptor "([B)V" = some ⟨[(.array .byte)], none⟩ := by decide +kernel
theorem pd_0_2 : parseMethodDescriptor "()Z" = some ⟨[], some .boolean⟩ := by decide +kernel
theorem pd_0_3 : parseMethodDescriptor "([BI)I" = some ⟨[(.array .byte), .int], some .int⟩ := by decide +kernel
theorem pd_0_4 : parseMethodDescriptor "()I" = some ⟨[], some .int⟩ := by decide +kernel
theorem ef_0 (m : MethodId) (x0 : Int32) (x1 : Int32) (x2 : Int32) (x3 : Int32) : entryFrame m #[(.int x0), (.int x1), (.int x2), (.int x3)] maxLocals = mkF m 0 #[.val (.int x0), .val (.int x1), .val (.int x2), .val (.int x3), .unset, .unset, .unset, .unset, .unset, .unset, .unset] [] := by first | (simp [entryFrame, mkF, argsToLocals, Value.category, maxLocals]; done) | rfl
def Q0 (Z : State) (p1 : Int32) (p2 : Int32) (p3 : Int32) (p4 : Int32) (h0 : Heap) (n0 : Nat) (v : Option Value) (h : Heap) (L : List Loc) : Prop := v = some (.int 1) ∧ Fr n0 L
set_option maxRecDepth 65536 in
set_option maxHeartbeats 40000000 in
theorem rm0 (l : Launch) (Z : State) (a0 : Array Value) (hw : ∀ d ∈ tables_1, d.before a0 Z = true) (ws : List Jvm.Cond) (p1 : Int32) (p2 : Int32) (p3 : Int32) (p4 : Int32) (h0 : Heap) (n0 : Nat) (Z0 : n0 ≤ h0.size)  :
    MetFree l x (head1 (Jvm.Cond.code x code maxLocals ret :: ws) room_1) (fun a U => a = #[(.int p1), (.int p2), (.int p3), (.int p4)] ∧ Z.Warmed39 U.vm ∧ U.heap = h0) (fun _ _ _ _ _ => True) (fun _ U o U' => ∃ v L, o = .returned v ∧ Q0 Z p1 p2 p3 p4 h0 n0 v U'.heap L ∧ FrameEnd U o U' L 2 5) := by
  refine MetFree.of_bodySF (plainFor_of_name pn_0) hisR ?_
  intro p e s m args below meth c s₁ Bd hml0 hP hK
  obtain ⟨rfl, hZ, hh⟩ := hP
  have hx := Bd.exec
  have hby := Bd.bytes
  have hml : c.maxLocals = 11 := hml0
  have hown : s.vm.findClass "com/example/ms2rank/ms2rank/candidate/UnpackerAtEndPinLaw" = some m.cls := findClass_of_methodNamed Bd.named
  have hnm := (name_of_methodNamed Bd.named Bd.method).1
  have X0 : Stand p l e room_1 s m #[(.int p1), (.int p2), (.int p3), (.int p4)] below meth c s₁ [] 0 0 := Stand.of_body Bd
  have e0 : s₁.heap = h0 := by rw [← hh, Bd.state]; rfl
  have N0 := Fr.nil n0
  suffices G0 : ∀ K : State → Prop, (∀ (n : State) (v : Option Value) (L : List Loc), n.status = .running → Ended n below (.returned v) → Q0 Z p1 p2 p3 p4 h0 n0 v n.heap L → FrameEnd s (.returned v) n L 2 5 → K n) → own_Go p e below K (s₁.setTop (mkF m 0 #[.val (.int p1), .val (.int p2), .val (.int p3), .val (.int p4), .unset, .unset, .unset, .unset, .unset, .unset, .unset] [])) by
    obtain ⟨t, st, o, a, b, v, L, e1, q, fe⟩ := G0 (fun n => ∃ o, n.status = .running ∧ Ended n below o ∧ ∃ v L, o = .returned v ∧ Q0 Z p1 p2 p3 p4 h0 n0 v n.heap L ∧ FrameEnd s o n L 2 5) (fun n v L a b q f => ⟨_, a, b, v, L, rfl, q, f⟩)
    exact ⟨t, o, castTop (ef_0 m p1 p2 p3 p4) st, a, b, v, L, e1, q, fe⟩
  intro K fin
  show own_Go p e below K (s₁.setTop (mkF m 0 #[.val (.int p1), .val (.int p2), .val (.int p3), .val (.int p4), .unset, .unset, .unset, .unset, .unset, .unset, .unset] []))
  refine own_st (fun t k => XS.iloadN X0.here hx rfl (hb hby at_0) rfl k) ?_
  show own_Go p e below K (s₁.setTop (mkF m 1 #[.val (.int p1), .val (.int p2), .val (.int p3), .val (.int p4), .unset, .unset, .unset, .unset, .unset, .unset, .unset] [(.int p1)]))
  refine own_st (fun t k => XS.iconst X0.here hx rfl (hb hby at_1) k) ?_
  show own_Go p e below K (s₁.setTop (mkF m 2 #[.val (.int p1), .val (.int p2), .val (.int p3), .val (.int p4), .unset, .unset, .unset, .unset, .unset, .unset, .unset] [(.int (3 : Int32)), (.int p1)]))
  refine own_st (fun t k => XS.iand X0.here hx rfl (hb hby at_2) rfl k) ?_
  show own_Go p e below K (s₁.setTop (mkF m 3 #[.val (.int p1), .val (.int p2), .val (.int p3), .val (.int p4), .unset, .unset, .unset, .unset, .unset, .unset, .unset] [(.int (p1 &&& (3 : Int32)))]))
  generalize hnn : (p1 &&& (3 : Int32)) = nn
  show own_Go p e below K (s₁.setTop (mkF m 3 #[.val (.int p1), .val (.int p2), .val (.int p3), .val (.int p4), .unset, .unset, .unset, .unset, .unset, .unset, .unset] [(.int nn)]))
  rcases own_n4 hnn with hs | hs | hs | hs
  · subst hs
    show own_Go p e below K (s₁.setTop (mkF m 3 #[.val (.int p1), .val (.int p2), .val (.int p3), .val (.int p4), .unset, .unset, .unset, .unset, .unset, .unset, .unset] [(.int (0 : Int32))]))
    refine own_st (fun t k => XS.istore X0.here hx rfl (hb hby at_3) rfl (l' := #[.val (.int p1), .val (.int p2), .val (.int p3), .val (.int p4), .val (.int (0 : Int32)), .unset, .unset, .unset, .unset, .unset, .unset]) rfl k) ?_
    show own_Go p e below K (s₁.setTop (mkF m 5 #[.val (.int p1), .val (.int p2), .val (.int p3), .val (.int p4), .val (.int (0 : Int32)), .unset, .unset, .unset, .unset, .unset, .unset] []))
    refine own_st (fun t k => XS.iload X0.here hx rfl (hb hby at_5) rfl k) ?_
    show own_Go p e below K (s₁.setTop (mkF m 7 #[.val (.int p1), .val (.int p2), .val (.int p3), .val (.int p4), .val (.int (0 : Int32)), .unset, .unset, .unset, .unset, .unset, .unset] [(.int (0 : Int32))]))
    obtain ⟨T1, h1, k1, X1, e1, E1, A1, st1⟩ := newP X0 hx hZ (hw _ (List.mem_of_getElem? (i := 0) rfl)) e0 (g := (mkF m 7 #[.val (.int p1), .val (.int p2), .val (.int p3), .val (.int p4), .val (.int (0 : Int32)), .unset, .unset, .unset, .unset, .unset, .unset] [(.int (0 : Int32))])) rfl (hb hby at_7) rfl (by decide) (cap := 0) (by decide) (by decide) (by decide) (by decide)
    obtain ⟨b1, g1⟩ : ∃ z, z = h0.size := ⟨_, rfl⟩
    rw [← g1] at A1 st1
    have g_b1 : n0 ≤ b1 := Nat.le_trans Z0 (Nat.le_of_eq g1.symm)
    have V1 : Arv Z h1 b1 k1 .byte (0 : Int32) [] (.int (0 : Int32)) := (Arv.new A1 (by decide)).pad (pad_rep [] (.int (0 : Int32)) 0)
    have Z1 : n0 ≤ h1.size := Nat.le_trans Z0 E1.1
    refine own_st st1 ?_
    show own_Go p e below K (T1.setTop (mkF m 9 #[.val (.int p1), .val (.int p2), .val (.int p3), .val (.int p4), .val (.int (0 : Int32)), .unset, .unset, .unset, .unset, .unset, .unset] [(.ref b1)]))
    try clear st1
    refine own_st (fun t k => XS.astore X1.here hx rfl (hb hby at_9) rfl rfl (l' := #[.val (.int p1), .val (.int p2), .val (.int p3), .val (.int p4), .val (.int (0 : Int32)), .val (.ref b1), .unset, .unset, .unset, .unset, .unset]) rfl k) ?_
    show own_Go p e below K (T1.setTop (mkF m 11 #[.val (.int p1), .val (.int p2), .val (.int p3), .val (.int p4), .val (.int (0 : Int32)), .val (.ref b1), .unset, .unset, .unset, .unset, .unset] []))
    refine own_st (fun t k => XS.iload X1.here hx rfl (hb hby at_11) rfl k) ?_
    show own_Go p e below K (T1.setTop (mkF m 13 #[.val (.int p1), .val (.int p2), .val (.int p3), .val (.int p4), .val (.int (0 : Int32)), .val (.ref b1), .unset, .unset, .unset, .unset, .unset] [(.int (0 : Int32))]))
    refine own_st (fun t k => XS.iconst X1.here hx rfl (hb hby at_13) k) ?_
    show own_Go p e below K (T1.setTop (mkF m 14 #[.val (.int p1), .val (.int p2), .val (.int p3), .val (.int p4), .val (.int (0 : Int32)), .val (.ref b1), .unset, .unset, .unset, .unset, .unset] [(.int (1 : Int32)), (.int (0 : Int32))]))
    refine own_st (fun t k => XS.icmpYes X1.here hx rfl (pc0 := 14) (pc' := 23) rfl (hb hby at_14) rfl (tlt (by decide : (0 : Int32) < (1 : Int32))).1 (by decide) (by decide) k) ?_
    show own_Go p e below K (T1.setTop (mkF m 23 #[.val (.int p1), .val (.int p2), .val (.int p3), .val (.int p4), .val (.int (0 : Int32)), .val (.ref b1), .unset, .unset, .unset, .unset, .unset] []))
    refine own_st (fun t k => XS.iload X1.here hx rfl (hb hby at_23) rfl k) ?_
    show own_Go p e below K (T1.setTop (mkF m 25 #[.val (.int p1), .val (.int p2), .val (.int p3), .val (.int p4), .val (.int (0 : Int32)), .val (.ref b1), .unset, .unset, .unset, .unset, .unset] [(.int (0 : Int32))]))
    refine own_st (fun t k => XS.iconst X1.here hx rfl (hb hby at_25) k) ?_
    show own_Go p e below K (T1.setTop (mkF m 26 #[.val (.int p1), .val (.int p2), .val (.int p3), .val (.int p4), .val (.int (0 : Int32)), .val (.ref b1), .unset, .unset, .unset, .unset, .unset] [(.int (2 : Int32)), (.int (0 : Int32))]))
    refine own_st (fun t k => XS.icmpYes X1.here hx rfl (pc0 := 26) (pc' := 35) rfl (hb hby at_26) rfl (tlt (by decide : (0 : Int32) < (2 : Int32))).1 (by decide) (by decide) k) ?_
    show own_Go p e below K (T1.setTop (mkF m 35 #[.val (.int p1), .val (.int p2), .val (.int p3), .val (.int p4), .val (.int (0 : Int32)), .val (.ref b1), .unset, .unset, .unset, .unset, .unset] []))
    refine own_st (fun t k => XS.iload X1.here hx rfl (hb hby at_35) rfl k) ?_
    show own_Go p e below K (T1.setTop (mkF m 37 #[.val (.int p1), .val (.int p2), .val (.int p3), .val (.int p4), .val (.int (0 : Int32)), .val (.ref b1), .unset, .unset, .unset, .unset, .unset] [(.int (0 : Int32))]))
    refine own_st (fun t k => XS.iconst X1.here hx rfl (hb hby at_37) k) ?_
    show own_Go p e below K (T1.setTop (mkF m 38 #[.val (.int p1), .val (.int p2), .val (.int p3), .val (.int p4), .val (.int (0 : Int32)), .val (.ref b1), .unset, .unset, .unset, .unset, .unset] [(.int (3 : Int32)), (.int (0 : Int32))]))
    refine own_st (fun t k => XS.icmpYes X1.here hx rfl (pc0 := 38) (pc' := 47) rfl (hb hby at_38) rfl (tlt (by decide : (0 : Int32) < (3 : Int32))).1 (by decide) (by decide) k) ?_
    show own_Go p e below K (T1.setTop (mkF m 47 #[.val (.int p1), .val (.int p2), .val (.int p3), .val (.int p4), .val (.int (0 : Int32)), .val (.ref b1), .unset, .unset, .unset, .unset, .unset] []))
    refine own_st (fun t k => XS.iload X1.here hx rfl (hb hby at_47) rfl k) ?_
    show own_Go p e below K (T1.setTop (mkF m 49 #[.val (.int p1), .val (.int p2), .val (.int p3), .val (.int p4), .val (.int (0 : Int32)), .val (.ref b1), .unset, .unset, .unset, .unset, .unset] [(.int (0 : Int32))]))
    refine own_st (fun t k => XS.iconst X1.here hx rfl (hb hby at_49) k) ?_
    show own_Go p e below K (T1.setTop (mkF m 50 #[.val (.int p1), .val (.int p2), .val (.int p3), .val (.int p4), .val (.int (0 : Int32)), .val (.ref b1), .unset, .unset, .unset, .unset, .unset] [(.int (1 : Int32)), (.int (0 : Int32))]))
    refine own_st (fun t k => XS.icmpYes X1.here hx rfl (pc0 := 50) (pc' := 71) rfl (hb hby at_50) rfl (tlt (by decide : (0 : Int32) < (1 : Int32))).1 (by decide) (by decide) k) ?_
    show own_Go p e below K (T1.setTop (mkF m 71 #[.val (.int p1), .val (.int p2), .val (.int p3), .val (.int p4), .val (.int (0 : Int32)), .val (.ref b1), .unset, .unset, .unset, .unset, .unset] []))
    obtain ⟨T2, h2, X2, e2, E2, A2, D2, -, st2⟩ := newO X1 hx hZ hown (hw _ (List.mem_of_getElem? (i := 1) rfl)) (hw _ (List.mem_of_getElem? (i := 2) rfl)) (hw _ (List.mem_of_getElem? (i := 3) rfl)) e1 (g := (mkF m 71 #[.val (.int p1), .val (.int p2), .val (.int p3), .val (.int p4), .val (.int (0 : Int32)), .val (.ref b1), .unset, .unset, .unset, .unset, .unset] [])) rfl (hb hby at_71) (by decide) (by decide)
    obtain ⟨b2, g2⟩ : ∃ z, z = h1.size := ⟨_, rfl⟩
    rw [← g2] at A2 D2 st2
    have ne_b1_b2 : b1 ≠ b2 := Nat.ne_of_lt (Nat.lt_of_lt_of_le V1.lt (Nat.le_of_eq g2.symm))
    have g_b2 : n0 ≤ b2 := Nat.le_trans Z1 (Nat.le_of_eq g2.symm)
    have f3 : Arv Z h2 b1 k1 .byte (0 : Int32) [] (.int (0 : Int32)) := V1.ext E2
    have f4 : Fld Z h2 b2 "com/example/ms2rank/ms2rank/candidate/Unpacker" "packed" "[B" .null := D2 (Or.inr (hw _ (List.mem_of_getElem? (i := 11) rfl))) (ty := (.array .byte)) (by decide)
    have f5 : Fld Z h2 b2 "com/example/ms2rank/ms2rank/candidate/Unpacker" "at" "I" (.int (0 : Int32)) := D2 (Or.inl (hw _ (List.mem_of_getElem? (i := 18) rfl))) (ty := .int) (by decide)
    have Z2 : n0 ≤ h2.size := Nat.le_trans Z1 E2.1
    refine own_st st2 ?_
    show own_Go p e below K (T2.setTop (mkF m 74 #[.val (.int p1), .val (.int p2), .val (.int p3), .val (.int p4), .val (.int (0 : Int32)), .val (.ref b1), .unset, .unset, .unset, .unset, .unset] [(.ref b2)]))
    try clear X1 e1 st2 V1
    refine own_st (fun t k => XS.dup X2.here hx rfl (hb hby at_74) rfl rfl k) ?_
    show own_Go p e below K (T2.setTop (mkF m 75 #[.val (.int p1), .val (.int p2), .val (.int p3), .val (.int p4), .val (.int (0 : Int32)), .val (.ref b1), .unset, .unset, .unset, .unset, .unset] [(.ref b2), (.ref b2)]))
    refine own_st (fun t k => XS.aload X2.here hx rfl (hb hby at_75) rfl rfl k) ?_
    show own_Go p e below K (T2.setTop (mkF m 77 #[.val (.int p1), .val (.int p2), .val (.int p3), .val (.int p4), .val (.int (0 : Int32)), .val (.ref b1), .unset, .unset, .unset, .unset, .unset] [(.ref b1), (.ref b2), (.ref b2)]))
    obtain ⟨_, _, ⟨T6, L6, k6, n6⟩, -, X6, ⟨Lc6, hQ6, l6, y6, z6⟩, st6⟩ := X2.specialBack hx (y := (⟨"com/example/ms2rank/ms2rank/candidate/Unpacker", "<init>", "([B)V"⟩ : MethodName)) rfl hown (mvT hZ (hw _ (List.mem_of_getElem? (i := 4) rfl))) (mvT hZ (hw _ (List.mem_of_getElem? (i := 5) rfl))) (mvT hZ (hw _ (List.mem_of_getElem? (i := 6) rfl))) (by decide) (backOf (W := 1) (rm1 l Z a0 hw [] b2 b1 h2 n0 Z2 g_b2 A2 f4 f5) hZ (hw _ (List.mem_of_getElem? (i := 6) rfl)) (hw _ (List.mem_of_getElem? (i := 3) rfl)) (by decide) (by decide)) (g := (mkF m 77 #[.val (.int p1), .val (.int p2), .val (.int p3), .val (.int p4), .val (.int (0 : Int32)), .val (.ref b1), .unset, .unset, .unset, .unset, .unset] [(.ref b1), (.ref b2), (.ref b2)])) rfl (by rw [hml]; rfl) (Steps.refl _) (a := b2) (argsL := [(.ref b1)]) (rest := [(.ref b2)]) (lenOf pd_0_0 rfl) rfl (by show 2 * 0 + _ ≤ _; exact Nat.le_of_eq rfl) (hb hby at_77) (fun _ _ => ⟨rfl, e2, (by decide : 2 + 0 ≤ _), (by decide : 2 + 0 ≤ _)⟩)
    dsimp only [Pt.U, Pt.locs, Pt.cells, Pt.slots] at X6 l6 y6 z6 st6 hQ6
    obtain ⟨rfl, N6q, Kq6, p6_0, p6_1, p6_2⟩ := hQ6
    have N6 : Fr n0 L6 := by rw [l6]; exact Fr.app N0 N6q
    clear l6
    have y6' : k6 = 2 := y6
    have z6' : n6 = 2 := z6
    clear y6 z6
    subst y6' z6'
    have f7 : Arv Z T6.heap b1 k1 .byte (0 : Int32) [] (.int (0 : Int32)) := f3.keep Kq6 (ninS ne_b1_b2 nin0)
    have Z6 : n0 ≤ T6.heap.size := Nat.le_trans Z2 Kq6.1
    refine own_tr st6 ?_
    show own_Go p e below K (T6.setTop (mkF m 80 #[.val (.int p1), .val (.int p2), .val (.int p3), .val (.int p4), .val (.int (0 : Int32)), .val (.ref b1), .unset, .unset, .unset, .unset, .unset] [(.ref b2)]))
    try clear X2 e2 st6 N6q f3
    refine own_st (fun t k => XS.astore X6.here hx rfl (hb hby at_80) rfl rfl (l' := #[.val (.int p1), .val (.int p2), .val (.int p3), .val (.int p4), .val (.int (0 : Int32)), .val (.ref b1), .val (.ref b2), .unset, .unset, .unset, .unset]) rfl k) ?_
    show own_Go p e below K (T6.setTop (mkF m 82 #[.val (.int p1), .val (.int p2), .val (.int p3), .val (.int p4), .val (.int (0 : Int32)), .val (.ref b1), .val (.ref b2), .unset, .unset, .unset, .unset] []))
    refine own_st (fun t k => XS.aload X6.here hx rfl (hb hby at_82) rfl rfl k) ?_
    show own_Go p e below K (T6.setTop (mkF m 84 #[.val (.int p1), .val (.int p2), .val (.int p3), .val (.int p4), .val (.int (0 : Int32)), .val (.ref b1), .val (.ref b2), .unset, .unset, .unset, .unset] [(.ref b2)]))
    obtain ⟨cq8, kq8, qv8a, qv8b, qv8c⟩ := isOf hZ rfl p6_0
    obtain ⟨_, _, ⟨T8, L8, k8, n8⟩, -, X8, ⟨Lc8, hQ8, l8, y8, z8⟩, st8⟩ := X6.virtualBack hx (y := (⟨"com/example/ms2rank/ms2rank/candidate/Unpacker", "atEnd", "()Z"⟩ : MethodName)) (z := (⟨"com/example/ms2rank/ms2rank/candidate/Unpacker", "atEnd", "()Z"⟩ : MethodName)) hown (mvT hZ (hw _ (List.mem_of_getElem? (i := 12) rfl))) (mvT hZ (hw _ (List.mem_of_getElem? (i := 13) rfl))) (notFace_of_selects (args := #[]) (mvT hZ (hw _ (List.mem_of_getElem? (i := 15) rfl)))) (mvT hZ (hw _ (List.mem_of_getElem? (i := 15) rfl))) (mvT hZ (hw _ (List.mem_of_getElem? (i := 14) rfl))) (by decide) (backOf (W := 0) (rm3 l Z a0 hw [] b2 ((0 : Int32)) (b1) (k1) ((0 : Int32)) ([]) T6.heap n0 Z6 p6_2 p6_1 f7) hZ (hw _ (List.mem_of_getElem? (i := 16) rfl)) (hw _ (List.mem_of_getElem? (i := 3) rfl)) (by decide) (by decide)) qv8a qv8c (g := (mkF m 84 #[.val (.int p1), .val (.int p2), .val (.int p3), .val (.int p4), .val (.int (0 : Int32)), .val (.ref b1), .val (.ref b2), .unset, .unset, .unset, .unset] [(.ref b2)])) rfl (by rw [hml]; rfl) (Steps.refl _) (argsL := []) (rest := []) (lenOf pd_0_2 rfl) rfl (by show 2 * 0 + _ ≤ _; exact Nat.le_of_eq rfl) (hb hby at_84) (fun _ _ => ⟨rfl, rfl, (by decide : 2 + 0 ≤ _), (by decide : 2 + 0 ≤ _)⟩)
    dsimp only [Pt.U, Pt.locs, Pt.cells, Pt.slots] at X8 l8 y8 z8 st8 hQ8
    obtain ⟨r8, rfl, hr8, N8q, e8⟩ := hQ8
    have N8 : Fr n0 L8 := by rw [l8]; exact Fr.app N6 N8q
    clear l8
    have y8' : k8 = 2 := y8
    have z8' : n8 = 2 := z8
    clear y8 z8
    subst y8' z8'
    refine own_tr st8 ?_
    show own_Go p e below K (T8.setTop (mkF m 87 #[.val (.int p1), .val (.int p2), .val (.int p3), .val (.int p4), .val (.int (0 : Int32)), .val (.ref b1), .val (.ref b2), .unset, .unset, .unset, .unset] [(.int r8)]))
    try clear X6 st8 N6 N8q
    refine own_st (fun t k => XS.iload X8.here hx rfl (hb hby at_87) rfl k) ?_
    show own_Go p e below K (T8.setTop (mkF m 89 #[.val (.int p1), .val (.int p2), .val (.int p3), .val (.int p4), .val (.int (0 : Int32)), .val (.ref b1), .val (.ref b2), .unset, .unset, .unset, .unset] [(.int (0 : Int32)), (.int r8)]))
    refine own_st (fun t k => XS.ifNo X8.here hx rfl (hb hby at_89) rfl ((if0 _ _).trans (teq (by decide : (0 : Int32) = (0 : Int32))).2) k) ?_
    show own_Go p e below K (T8.setTop (mkF m 92 #[.val (.int p1), .val (.int p2), .val (.int p3), .val (.int p4), .val (.int (0 : Int32)), .val (.ref b1), .val (.ref b2), .unset, .unset, .unset, .unset] [(.int r8)]))
    refine own_st (fun t k => XS.iconst X8.here hx rfl (hb hby at_92) k) ?_
    show own_Go p e below K (T8.setTop (mkF m 93 #[.val (.int p1), .val (.int p2), .val (.int p3), .val (.int p4), .val (.int (0 : Int32)), .val (.ref b1), .val (.ref b2), .unset, .unset, .unset, .unset] [(.int (1 : Int32)), (.int r8)]))
    refine own_st (fun t k => XS.goto X8.here hx rfl (pc0 := 93) (pc' := 97) rfl (hb hby at_93) (by decide) (by decide) k) ?_
    show own_Go p e below K (T8.setTop (mkF m 97 #[.val (.int p1), .val (.int p2), .val (.int p3), .val (.int p4), .val (.int (0 : Int32)), .val (.ref b1), .val (.ref b2), .unset, .unset, .unset, .unset] [(.int (1 : Int32)), (.int r8)]))
    refine own_st (fun t k => XS.icmpNo X8.here hx rfl (hb hby at_97) rfl (teq (own_B.one hr8 (by decide) : r8 = (1 : Int32))).2 k) ?_
    show own_Go p e below K (T8.setTop (mkF m 100 #[.val (.int p1), .val (.int p2), .val (.int p3), .val (.int p4), .val (.int (0 : Int32)), .val (.ref b1), .val (.ref b2), .unset, .unset, .unset, .unset] []))
    refine own_st (fun t k => XS.iconst X8.here hx rfl (hb hby at_100) k) ?_
    show own_Go p e below K (T8.setTop (mkF m 101 #[.val (.int p1), .val (.int p2), .val (.int p3), .val (.int p4), .val (.int (0 : Int32)), .val (.ref b1), .val (.ref b2), .unset, .unset, .unset, .unset] [(.int (1 : Int32))]))
    refine own_st (fun t k => XS.goto X8.here hx rfl (pc0 := 101) (pc' := 105) rfl (hb hby at_101) (by decide) (by decide) k) ?_
    show own_Go p e below K (T8.setTop (mkF m 105 #[.val (.int p1), .val (.int p2), .val (.int p3), .val (.int p4), .val (.int (0 : Int32)), .val (.ref b1), .val (.ref b2), .unset, .unset, .unset, .unset] [(.int (1 : Int32))]))
    refine own_st (fun t k => XS.istore X8.here hx rfl (hb hby at_105) rfl (l' := #[.val (.int p1), .val (.int p2), .val (.int p3), .val (.int p4), .val (.int (0 : Int32)), .val (.ref b1), .val (.ref b2), .val (.int (1 : Int32)), .unset, .unset, .unset]) rfl k) ?_
    show own_Go p e below K (T8.setTop (mkF m 107 #[.val (.int p1), .val (.int p2), .val (.int p3), .val (.int p4), .val (.int (0 : Int32)), .val (.ref b1), .val (.ref b2), .val (.int (1 : Int32)), .unset, .unset, .unset] []))
    refine own_st (fun t k => XS.iload X8.here hx rfl (hb hby at_107) rfl k) ?_
    show own_Go p e below K (T8.setTop (mkF m 109 #[.val (.int p1), .val (.int p2), .val (.int p3), .val (.int p4), .val (.int (0 : Int32)), .val (.ref b1), .val (.ref b2), .val (.int (1 : Int32)), .unset, .unset, .unset] [(.int (0 : Int32))]))
    refine own_st (fun t k => XS.ifNo X8.here hx rfl (hb hby at_109) rfl ((if0 _ _).trans (teq (by decide : (0 : Int32) = (0 : Int32))).2) k) ?_
    show own_Go p e below K (T8.setTop (mkF m 112 #[.val (.int p1), .val (.int p2), .val (.int p3), .val (.int p4), .val (.int (0 : Int32)), .val (.ref b1), .val (.ref b2), .val (.int (1 : Int32)), .unset, .unset, .unset] []))
    refine own_st (fun t k => XS.iload X8.here hx rfl (hb hby at_112) rfl k) ?_
    show own_Go p e below K (T8.setTop (mkF m 114 #[.val (.int p1), .val (.int p2), .val (.int p3), .val (.int p4), .val (.int (0 : Int32)), .val (.ref b1), .val (.ref b2), .val (.int (1 : Int32)), .unset, .unset, .unset] [(.int (1 : Int32))]))
    obtain ⟨fs, hr, hrun, hended, hW, hsame⟩ := X8.leave (v := some (.int (nar .boolean (1 : Int32)))) (fun h => by rw [Bd.returns] at h; cases h)
    refine ⟨_, retN X8 hx (t := .boolean) Bd.returns (by simp) (hb hby at_114) hr, fin _ _ _ hrun hended ?_ ⟨⟨_, rfl⟩, hW, hsame.mono (by decide) (by decide)⟩⟩
    show Q0 Z p1 p2 p3 p4 h0 n0 _ T8.heap _
    rw [e8]
    exact ⟨rfl, N8⟩
  · subst hs
    show own_Go p e below K (s₁.setTop (mkF m 3 #[.val (.int p1), .val (.int p2), .val (.int p3), .val (.int p4), .unset, .unset, .unset, .unset, .unset, .unset, .unset] [(.int (1 : Int32))]))
    refine own_st (fun t k => XS.istore X0.here hx rfl (hb hby at_3) rfl (l' := #[.val (.int p1), .val (.int p2), .val (.int p3), .val (.int p4), .val (.int (1 : Int32)), .unset, .unset, .unset, .unset, .unset, .unset]) rfl k) ?_
    show own_Go p e below K (s₁.setTop (mkF m 5 #[.val (.int p1), .val (.int p2), .val (.int p3), .val (.int p4), .val (.int (1 : Int32)), .unset, .unset, .unset, .unset, .unset, .unset] []))
    refine own_st (fun t k => XS.iload X0.here hx rfl (hb hby at_5) rfl k) ?_
    show own_Go p e below K (s₁.setTop (mkF m 7 #[.val (.int p1), .val (.int p2), .val (.int p3), .val (.int p4), .val (.int (1 : Int32)), .unset, .unset, .unset, .unset, .unset, .unset] [(.int (1 : Int32))]))
    obtain ⟨T9, h9, k9, X9, e9, E9, A9, st9⟩ := newP X0 hx hZ (hw _ (List.mem_of_getElem? (i := 0) rfl)) e0 (g := (mkF m 7 #[.val (.int p1), .val (.int p2), .val (.int p3), .val (.int p4), .val (.int (1 : Int32)), .unset, .unset, .unset, .unset, .unset, .unset] [(.int (1 : Int32))])) rfl (hb hby at_7) rfl (by decide) (cap := 1) (by decide) (by decide) (by decide) (by decide)
    obtain ⟨b9, g9⟩ : ∃ z, z = h0.size := ⟨_, rfl⟩
    rw [← g9] at A9 st9
    have g_b9 : n0 ≤ b9 := Nat.le_trans Z0 (Nat.le_of_eq g9.symm)
    have V9 : Arv Z h9 b9 k9 .byte (1 : Int32) [(.int (0 : Int32))] (.int (0 : Int32)) := (Arv.new A9 (by decide)).pad (pad_rep [] (.int (0 : Int32)) 1)
    have Z9 : n0 ≤ h9.size := Nat.le_trans Z0 E9.1
    refine own_st st9 ?_
    show own_Go p e below K (T9.setTop (mkF m 9 #[.val (.int p1), .val (.int p2), .val (.int p3), .val (.int p4), .val (.int (1 : Int32)), .unset, .unset, .unset, .unset, .unset, .unset] [(.ref b9)]))
    try clear st9
    refine own_st (fun t k => XS.astore X9.here hx rfl (hb hby at_9) rfl rfl (l' := #[.val (.int p1), .val (.int p2), .val (.int p3), .val (.int p4), .val (.int (1 : Int32)), .val (.ref b9), .unset, .unset, .unset, .unset, .unset]) rfl k) ?_
    show own_Go p e below K (T9.setTop (mkF m 11 #[.val (.int p1), .val (.int p2), .val (.int p3), .val (.int p4), .val (.int (1 : Int32)), .val (.ref b9), .unset, .unset, .unset, .unset, .unset] []))
    refine own_st (fun t k => XS.iload X9.here hx rfl (hb hby at_11) rfl k) ?_
    show own_Go p e below K (T9.setTop (mkF m 13 #[.val (.int p1), .val (.int p2), .val (.int p3), .val (.int p4), .val (.int (1 : Int32)), .val (.ref b9), .unset, .unset, .unset, .unset, .unset] [(.int (1 : Int32))]))
    refine own_st (fun t k => XS.iconst X9.here hx rfl (hb hby at_13) k) ?_
    show own_Go p e below K (T9.setTop (mkF m 14 #[.val (.int p1), .val (.int p2), .val (.int p3), .val (.int p4), .val (.int (1 : Int32)), .val (.ref b9), .unset, .unset, .unset, .unset, .unset] [(.int (1 : Int32)), (.int (1 : Int32))]))
    refine own_st (fun t k => XS.icmpNo X9.here hx rfl (hb hby at_14) rfl (flt (by decide : ¬ ((1 : Int32) < (1 : Int32)))).1 k) ?_
    show own_Go p e below K (T9.setTop (mkF m 17 #[.val (.int p1), .val (.int p2), .val (.int p3), .val (.int p4), .val (.int (1 : Int32)), .val (.ref b9), .unset, .unset, .unset, .unset, .unset] []))
    refine own_st (fun t k => XS.aload X9.here hx rfl (hb hby at_17) rfl rfl k) ?_
    show own_Go p e below K (T9.setTop (mkF m 19 #[.val (.int p1), .val (.int p2), .val (.int p3), .val (.int p4), .val (.int (1 : Int32)), .val (.ref b9), .unset, .unset, .unset, .unset, .unset] [(.ref b9)]))
    refine own_st (fun t k => XS.iconst X9.here hx rfl (hb hby at_19) k) ?_
    show own_Go p e below K (T9.setTop (mkF m 20 #[.val (.int p1), .val (.int p2), .val (.int p3), .val (.int p4), .val (.int (1 : Int32)), .val (.ref b9), .unset, .unset, .unset, .unset, .unset] [(.int (0 : Int32)), (.ref b9)]))
    refine own_st (fun t k => XS.iloadN X9.here hx rfl (hb hby at_20) rfl k) ?_
    show own_Go p e below K (T9.setTop (mkF m 21 #[.val (.int p1), .val (.int p2), .val (.int p3), .val (.int p4), .val (.int (1 : Int32)), .val (.ref b9), .unset, .unset, .unset, .unset, .unset] [(.int p2), (.int (0 : Int32)), (.ref b9)]))
    refine own_st (fun t k => XS.i2b X9.here hx rfl (hb hby at_21) rfl k) ?_
    show own_Go p e below K (T9.setTop (mkF m 22 #[.val (.int p1), .val (.int p2), .val (.int p3), .val (.int p4), .val (.int (1 : Int32)), .val (.ref b9), .unset, .unset, .unset, .unset, .unset] [(.int (p2.toInt8.toInt32)), (.int (0 : Int32)), (.ref b9)]))
    obtain ⟨cl10, Ar10, qa10, Sa10, Ma10, Ha10, Ga10⟩ := id V9
    have hin10 : ¬ ((0 : Int32) < 0 ∨ cl10.slots.size ≤ ((0 : Int32)).toNatClampNeg) := inb_of Sa10 ⟨by decide, by decide⟩
    obtain ⟨T11, h11, X11, e11, W11, st11⟩ := stB X9 hx hZ e9 Ar10 (j := (0 : Int32)) hin10 (g := (mkF m 22 #[.val (.int p1), .val (.int p2), .val (.int p3), .val (.int p4), .val (.int (1 : Int32)), .val (.ref b9), .unset, .unset, .unset, .unset, .unset] [(.int (p2.toInt8.toInt32)), (.int (0 : Int32)), (.ref b9)])) rfl rfl (hb hby at_22)
    have id11 : nar .byte (p2.toInt8.toInt32) = (p2.toInt8.toInt32) := (own_nb _)
    rw [id11] at W11
    have V11 : Arv Z h11 b9 k9 .byte (1 : Int32) [(.int (p2.toInt8.toInt32))] (.int (0 : Int32)) := Arv.set Ar10 qa10 Sa10 Ma10 Ha10 Ga10 (own_fit id11) W11 0 rfl (Nat.le_of_ble_eq_true rfl)
    have N11 := Fr.snoc X11 N0 g_b9
    have Z11 : n0 ≤ h11.size := Nat.le_trans Z9 (Keep.of_wr W11).1
    refine own_st st11 ?_
    show own_Go p e below K (T11.setTop (mkF m 23 #[.val (.int p1), .val (.int p2), .val (.int p3), .val (.int p4), .val (.int (1 : Int32)), .val (.ref b9), .unset, .unset, .unset, .unset, .unset] []))
    try clear X9 e9 st11
    refine own_st (fun t k => XS.iload X11.here hx rfl (hb hby at_23) rfl k) ?_
    show own_Go p e below K (T11.setTop (mkF m 25 #[.val (.int p1), .val (.int p2), .val (.int p3), .val (.int p4), .val (.int (1 : Int32)), .val (.ref b9), .unset, .unset, .unset, .unset, .unset] [(.int (1 : Int32))]))
    refine own_st (fun t k => XS.iconst X11.here hx rfl (hb hby at_25) k) ?_
    show own_Go p e below K (T11.setTop (mkF m 26 #[.val (.int p1), .val (.int p2), .val (.int p3), .val (.int p4), .val (.int (1 : Int32)), .val (.ref b9), .unset, .unset, .unset, .unset, .unset] [(.int (2 : Int32)), (.int (1 : Int32))]))
    refine own_st (fun t k => XS.icmpYes X11.here hx rfl (pc0 := 26) (pc' := 35) rfl (hb hby at_26) rfl (tlt (by decide : (1 : Int32) < (2 : Int32))).1 (by decide) (by decide) k) ?_
    show own_Go p e below K (T11.setTop (mkF m 35 #[.val (.int p1), .val (.int p2), .val (.int p3), .val (.int p4), .val (.int (1 : Int32)), .val (.ref b9), .unset, .unset, .unset, .unset, .unset] []))
    refine own_st (fun t k => XS.iload X11.here hx rfl (hb hby at_35) rfl k) ?_
    show own_Go p e below K (T11.setTop (mkF m 37 #[.val (.int p1), .val (.int p2), .val (.int p3), .val (.int p4), .val (.int (1 : Int32)), .val (.ref b9), .unset, .unset, .unset, .unset, .unset] [(.int (1 : Int32))]))
    refine own_st (fun t k => XS.iconst X11.here hx rfl (hb hby at_37) k) ?_
    show own_Go p e below K (T11.setTop (mkF m 38 #[.val (.int p1), .val (.int p2), .val (.int p3), .val (.int p4), .val (.int (1 : Int32)), .val (.ref b9), .unset, .unset, .unset, .unset, .unset] [(.int (3 : Int32)), (.int (1 : Int32))]))
    refine own_st (fun t k => XS.icmpYes X11.here hx rfl (pc0 := 38) (pc' := 47) rfl (hb hby at_38) rfl (tlt (by decide : (1 : Int32) < (3 : Int32))).1 (by decide) (by decide) k) ?_
    show own_Go p e below K (T11.setTop (mkF m 47 #[.val (.int p1), .val (.int p2), .val (.int p3), .val (.int p4), .val (.int (1 : Int32)), .val (.ref b9), .unset, .unset, .unset, .unset, .unset] []))
    refine own_st (fun t k => XS.iload X11.here hx rfl (hb hby at_47) rfl k) ?_
    show own_Go p e below K (T11.setTop (mkF m 49 #[.val (.int p1), .val (.int p2), .val (.int p3), .val (.int p4), .val (.int (1 : Int32)), .val (.ref b9), .unset, .unset, .unset, .unset, .unset] [(.int (1 : Int32))]))
    refine own_st (fun t k => XS.iconst X11.here hx rfl (hb hby at_49) k) ?_
    show own_Go p e below K (T11.setTop (mkF m 50 #[.val (.int p1), .val (.int p2), .val (.int p3), .val (.int p4), .val (.int (1 : Int32)), .val (.ref b9), .unset, .unset, .unset, .unset, .unset] [(.int (1 : Int32)), (.int (1 : Int32))]))
    refine own_st (fun t k => XS.icmpNo X11.here hx rfl (hb hby at_50) rfl (flt (by decide : ¬ ((1 : Int32) < (1 : Int32)))).1 k) ?_
    show own_Go p e below K (T11.setTop (mkF m 53 #[.val (.int p1), .val (.int p2), .val (.int p3), .val (.int p4), .val (.int (1 : Int32)), .val (.ref b9), .unset, .unset, .unset, .unset, .unset] []))
    refine own_st (fun t k => XS.aload X11.here hx rfl (hb hby at_53) rfl rfl k) ?_
    show own_Go p e below K (T11.setTop (mkF m 55 #[.val (.int p1), .val (.int p2), .val (.int p3), .val (.int p4), .val (.int (1 : Int32)), .val (.ref b9), .unset, .unset, .unset, .unset, .unset] [(.ref b9)]))
    refine own_st (fun t k => XS.iload X11.here hx rfl (hb hby at_55) rfl k) ?_
    show own_Go p e below K (T11.setTop (mkF m 57 #[.val (.int p1), .val (.int p2), .val (.int p3), .val (.int p4), .val (.int (1 : Int32)), .val (.ref b9), .unset, .unset, .unset, .unset, .unset] [(.int (1 : Int32)), (.ref b9)]))
    refine own_st (fun t k => XS.iconst X11.here hx rfl (hb hby at_57) k) ?_
    show own_Go p e below K (T11.setTop (mkF m 58 #[.val (.int p1), .val (.int p2), .val (.int p3), .val (.int p4), .val (.int (1 : Int32)), .val (.ref b9), .unset, .unset, .unset, .unset, .unset] [(.int (1 : Int32)), (.int (1 : Int32)), (.ref b9)]))
    refine own_st (fun t k => XS.isub X11.here hx rfl (hb hby at_58) rfl k) ?_
    show own_Go p e below K (T11.setTop (mkF m 59 #[.val (.int p1), .val (.int p2), .val (.int p3), .val (.int p4), .val (.int (1 : Int32)), .val (.ref b9), .unset, .unset, .unset, .unset, .unset] [(.int ((1 : Int32) - (1 : Int32))), (.ref b9)]))
    rw [show ((1 : Int32) - (1 : Int32)) = (0 : Int32) from by decide]
    show own_Go p e below K (T11.setTop (mkF m 59 #[.val (.int p1), .val (.int p2), .val (.int p3), .val (.int p4), .val (.int (1 : Int32)), .val (.ref b9), .unset, .unset, .unset, .unset, .unset] [(.int (0 : Int32)), (.ref b9)]))
    refine own_st (fun t k => XS.aload X11.here hx rfl (hb hby at_59) rfl rfl k) ?_
    show own_Go p e below K (T11.setTop (mkF m 61 #[.val (.int p1), .val (.int p2), .val (.int p3), .val (.int p4), .val (.int (1 : Int32)), .val (.ref b9), .unset, .unset, .unset, .unset, .unset] [(.ref b9), (.int (0 : Int32)), (.ref b9)]))
    refine own_st (fun t k => XS.iload X11.here hx rfl (hb hby at_61) rfl k) ?_
    show own_Go p e below K (T11.setTop (mkF m 63 #[.val (.int p1), .val (.int p2), .val (.int p3), .val (.int p4), .val (.int (1 : Int32)), .val (.ref b9), .unset, .unset, .unset, .unset, .unset] [(.int (1 : Int32)), (.ref b9), (.int (0 : Int32)), (.ref b9)]))
    refine own_st (fun t k => XS.iconst X11.here hx rfl (hb hby at_63) k) ?_
    show own_Go p e below K (T11.setTop (mkF m 64 #[.val (.int p1), .val (.int p2), .val (.int p3), .val (.int p4), .val (.int (1 : Int32)), .val (.ref b9), .unset, .unset, .unset, .unset, .unset] [(.int (1 : Int32)), (.int (1 : Int32)), (.ref b9), (.int (0 : Int32)), (.ref b9)]))
    refine own_st (fun t k => XS.isub X11.here hx rfl (hb hby at_64) rfl k) ?_
    show own_Go p e below K (T11.setTop (mkF m 65 #[.val (.int p1), .val (.int p2), .val (.int p3), .val (.int p4), .val (.int (1 : Int32)), .val (.ref b9), .unset, .unset, .unset, .unset, .unset] [(.int ((1 : Int32) - (1 : Int32))), (.ref b9), (.int (0 : Int32)), (.ref b9)]))
    rw [show ((1 : Int32) - (1 : Int32)) = (0 : Int32) from by decide]
    show own_Go p e below K (T11.setTop (mkF m 65 #[.val (.int p1), .val (.int p2), .val (.int p3), .val (.int p4), .val (.int (1 : Int32)), .val (.ref b9), .unset, .unset, .unset, .unset, .unset] [(.int (0 : Int32)), (.ref b9), (.int (0 : Int32)), (.ref b9)]))
    obtain ⟨cl12, Ar12, qa12, Sa12, Ma12, Ha12, Ga12⟩ := id V11
    have hin12 : ¬ ((0 : Int32) < 0 ∨ cl12.slots.size ≤ ((0 : Int32)).toNatClampNeg) := inb_of Sa12 ⟨by decide, by decide⟩
    refine own_st (X11.baloadBytes hx (j := (0 : Int32)) (v := (.int (p2.toInt8.toInt32))) (own_hat e11 Ar12.1) (State.isArrayOf_alike hZ.alike Ar12.2.1) Ar12.2.2 hin12 (Has.at Ha12 hin12 rfl) (g := (mkF m 65 #[.val (.int p1), .val (.int p2), .val (.int p3), .val (.int p4), .val (.int (1 : Int32)), .val (.ref b9), .unset, .unset, .unset, .unset, .unset] [(.int (0 : Int32)), (.ref b9), (.int (0 : Int32)), (.ref b9)])) rfl rfl (hb hby at_65)) ?_
    show own_Go p e below K (T11.setTop (mkF m 66 #[.val (.int p1), .val (.int p2), .val (.int p3), .val (.int p4), .val (.int (1 : Int32)), .val (.ref b9), .unset, .unset, .unset, .unset, .unset] [(.int (p2.toInt8.toInt32)), (.int (0 : Int32)), (.ref b9)]))
    refine own_st (fun t k => XS.bipush X11.here hx rfl (hb hby at_66) k) ?_
    show own_Go p e below K (T11.setTop (mkF m 68 #[.val (.int p1), .val (.int p2), .val (.int p3), .val (.int p4), .val (.int (1 : Int32)), .val (.ref b9), .unset, .unset, .unset, .unset, .unset] [(.int (127 : Int32)), (.int (p2.toInt8.toInt32)), (.int (0 : Int32)), (.ref b9)]))
    refine own_st (fun t k => XS.iand X11.here hx rfl (hb hby at_68) rfl k) ?_
    show own_Go p e below K (T11.setTop (mkF m 69 #[.val (.int p1), .val (.int p2), .val (.int p3), .val (.int p4), .val (.int (1 : Int32)), .val (.ref b9), .unset, .unset, .unset, .unset, .unset] [(.int ((p2.toInt8.toInt32) &&& (127 : Int32))), (.int (0 : Int32)), (.ref b9)]))
    refine own_st (fun t k => XS.i2b X11.here hx rfl (hb hby at_69) rfl k) ?_
    show own_Go p e below K (T11.setTop (mkF m 70 #[.val (.int p1), .val (.int p2), .val (.int p3), .val (.int p4), .val (.int (1 : Int32)), .val (.ref b9), .unset, .unset, .unset, .unset, .unset] [(.int (((p2.toInt8.toInt32) &&& (127 : Int32)).toInt8.toInt32)), (.int (0 : Int32)), (.ref b9)]))
    obtain ⟨cl13, Ar13, qa13, Sa13, Ma13, Ha13, Ga13⟩ := id V11
    have hin13 : ¬ ((0 : Int32) < 0 ∨ cl13.slots.size ≤ ((0 : Int32)).toNatClampNeg) := inb_of Sa13 ⟨by decide, by decide⟩
    obtain ⟨T14, h14, X14, e14, W14, st14⟩ := stB X11 hx hZ e11 Ar13 (j := (0 : Int32)) hin13 (g := (mkF m 70 #[.val (.int p1), .val (.int p2), .val (.int p3), .val (.int p4), .val (.int (1 : Int32)), .val (.ref b9), .unset, .unset, .unset, .unset, .unset] [(.int (((p2.toInt8.toInt32) &&& (127 : Int32)).toInt8.toInt32)), (.int (0 : Int32)), (.ref b9)])) rfl rfl (hb hby at_70)
    have id14 : nar .byte (((p2.toInt8.toInt32) &&& (127 : Int32)).toInt8.toInt32) = (((p2.toInt8.toInt32) &&& (127 : Int32)).toInt8.toInt32) := (own_nb _)
    rw [id14] at W14
    have V14 : Arv Z h14 b9 k9 .byte (1 : Int32) [(.int (((p2.toInt8.toInt32) &&& (127 : Int32)).toInt8.toInt32))] (.int (0 : Int32)) := Arv.set Ar13 qa13 Sa13 Ma13 Ha13 Ga13 (own_fit id14) W14 0 rfl (Nat.le_of_ble_eq_true rfl)
    have N14 := Fr.snoc X14 N11 g_b9
    have Z14 : n0 ≤ h14.size := Nat.le_trans Z11 (Keep.of_wr W14).1
    refine own_st st14 ?_
    show own_Go p e below K (T14.setTop (mkF m 71 #[.val (.int p1), .val (.int p2), .val (.int p3), .val (.int p4), .val (.int (1 : Int32)), .val (.ref b9), .unset, .unset, .unset, .unset, .unset] []))
    try clear X11 e11 st14
    obtain ⟨ys, hys⟩ : ∃ z : List Int32, z = [(((p2.toInt8.toInt32) &&& (127 : Int32)).toInt8.toInt32)] := ⟨_, rfl⟩
    have V15 : Arv Z h14 b9 k9 .byte (1 : Int32) (ys.map Value.int) (.int (0 : Int32)) := by rw [hys]; exact V14
    have yl : ¬ ys.getD 0 0 < 0 := by rw [hys]; exact own_pos _
    obtain ⟨T16, h16, X16, e16, E16, A16, D16, -, st16⟩ := newO X14 hx hZ hown (hw _ (List.mem_of_getElem? (i := 1) rfl)) (hw _ (List.mem_of_getElem? (i := 2) rfl)) (hw _ (List.mem_of_getElem? (i := 3) rfl)) e14 (g := (mkF m 71 #[.val (.int p1), .val (.int p2), .val (.int p3), .val (.int p4), .val (.int (1 : Int32)), .val (.ref b9), .unset, .unset, .unset, .unset, .unset] [])) rfl (hb hby at_71) (by decide) (by decide)
    obtain ⟨b16, g16⟩ : ∃ z, z = h14.size := ⟨_, rfl⟩
    rw [← g16] at A16 D16 st16
    have ne_b9_b16 : b9 ≠ b16 := Nat.ne_of_lt (Nat.lt_of_lt_of_le V15.lt (Nat.le_of_eq g16.symm))
    have g_b16 : n0 ≤ b16 := Nat.le_trans Z14 (Nat.le_of_eq g16.symm)
    have f17 : Arv Z h16 b9 k9 .byte (1 : Int32) (ys.map Value.int) (.int (0 : Int32)) := V15.ext E16
    have f18 : Fld Z h16 b16 "com/example/ms2rank/ms2rank/candidate/Unpacker" "packed" "[B" .null := D16 (Or.inr (hw _ (List.mem_of_getElem? (i := 11) rfl))) (ty := (.array .byte)) (by decide)
    have f19 : Fld Z h16 b16 "com/example/ms2rank/ms2rank/candidate/Unpacker" "at" "I" (.int (0 : Int32)) := D16 (Or.inl (hw _ (List.mem_of_getElem? (i := 18) rfl))) (ty := .int) (by decide)
    have Z16 : n0 ≤ h16.size := Nat.le_trans Z14 E16.1
    refine own_st st16 ?_
    show own_Go p e below K (T16.setTop (mkF m 74 #[.val (.int p1), .val (.int p2), .val (.int p3), .val (.int p4), .val (.int (1 : Int32)), .val (.ref b9), .unset, .unset, .unset, .unset, .unset] [(.ref b16)]))
    try clear X14 e14 st16 V15
    refine own_st (fun t k => XS.dup X16.here hx rfl (hb hby at_74) rfl rfl k) ?_
    show own_Go p e below K (T16.setTop (mkF m 75 #[.val (.int p1), .val (.int p2), .val (.int p3), .val (.int p4), .val (.int (1 : Int32)), .val (.ref b9), .unset, .unset, .unset, .unset, .unset] [(.ref b16), (.ref b16)]))
    refine own_st (fun t k => XS.aload X16.here hx rfl (hb hby at_75) rfl rfl k) ?_
    show own_Go p e below K (T16.setTop (mkF m 77 #[.val (.int p1), .val (.int p2), .val (.int p3), .val (.int p4), .val (.int (1 : Int32)), .val (.ref b9), .unset, .unset, .unset, .unset, .unset] [(.ref b9), (.ref b16), (.ref b16)]))
    obtain ⟨_, _, ⟨T20, L20, k20, n20⟩, -, X20, ⟨Lc20, hQ20, l20, y20, z20⟩, st20⟩ := X16.specialBack hx (y := (⟨"com/example/ms2rank/ms2rank/candidate/Unpacker", "<init>", "([B)V"⟩ : MethodName)) rfl hown (mvT hZ (hw _ (List.mem_of_getElem? (i := 4) rfl))) (mvT hZ (hw _ (List.mem_of_getElem? (i := 5) rfl))) (mvT hZ (hw _ (List.mem_of_getElem? (i := 6) rfl))) (by decide) (backOf (W := 1) (rm1 l Z a0 hw [] b16 b9 h16 n0 Z16 g_b16 A16 f18 f19) hZ (hw _ (List.mem_of_getElem? (i := 6) rfl)) (hw _ (List.mem_of_getElem? (i := 3) rfl)) (by decide) (by decide)) (g := (mkF m 77 #[.val (.int p1), .val (.int p2), .val (.int p3), .val (.int p4), .val (.int (1 : Int32)), .val (.ref b9), .unset, .unset, .unset, .unset, .unset] [(.ref b9), (.ref b16), (.ref b16)])) rfl (by rw [hml]; rfl) (Steps.refl _) (a := b16) (argsL := [(.ref b9)]) (rest := [(.ref b16)]) (lenOf pd_0_0 rfl) rfl (by show 2 * 0 + _ ≤ _; exact Nat.le_of_eq rfl) (hb hby at_77) (fun _ _ => ⟨rfl, e16, (by decide : 2 + 0 ≤ _), (by decide : 3 + 0 ≤ _)⟩)
    dsimp only [Pt.U, Pt.locs, Pt.cells, Pt.slots] at X20 l20 y20 z20 st20 hQ20
    obtain ⟨rfl, N20q, Kq20, p20_0, p20_1, p20_2⟩ := hQ20
    have N20 : Fr n0 L20 := by rw [l20]; exact Fr.app N14 N20q
    clear l20
    have y20' : k20 = 2 := y20
    have z20' : n20 = 3 := z20
    clear y20 z20
    subst y20' z20'
    have f21 : Arv Z T20.heap b9 k9 .byte (1 : Int32) (ys.map Value.int) (.int (0 : Int32)) := f17.keep Kq20 (ninS ne_b9_b16 nin0)
    have Z20 : n0 ≤ T20.heap.size := Nat.le_trans Z16 Kq20.1
    refine own_tr st20 ?_
    show own_Go p e below K (T20.setTop (mkF m 80 #[.val (.int p1), .val (.int p2), .val (.int p3), .val (.int p4), .val (.int (1 : Int32)), .val (.ref b9), .unset, .unset, .unset, .unset, .unset] [(.ref b16)]))
    try clear X16 e16 st20 N14 N20q f17
    refine own_st (fun t k => XS.astore X20.here hx rfl (hb hby at_80) rfl rfl (l' := #[.val (.int p1), .val (.int p2), .val (.int p3), .val (.int p4), .val (.int (1 : Int32)), .val (.ref b9), .val (.ref b16), .unset, .unset, .unset, .unset]) rfl k) ?_
    show own_Go p e below K (T20.setTop (mkF m 82 #[.val (.int p1), .val (.int p2), .val (.int p3), .val (.int p4), .val (.int (1 : Int32)), .val (.ref b9), .val (.ref b16), .unset, .unset, .unset, .unset] []))
    refine own_st (fun t k => XS.aload X20.here hx rfl (hb hby at_82) rfl rfl k) ?_
    show own_Go p e below K (T20.setTop (mkF m 84 #[.val (.int p1), .val (.int p2), .val (.int p3), .val (.int p4), .val (.int (1 : Int32)), .val (.ref b9), .val (.ref b16), .unset, .unset, .unset, .unset] [(.ref b16)]))
    obtain ⟨cq22, kq22, qv22a, qv22b, qv22c⟩ := isOf hZ rfl p20_0
    obtain ⟨_, _, ⟨T22, L22, k22, n22⟩, -, X22, ⟨Lc22, hQ22, l22, y22, z22⟩, st22⟩ := X20.virtualBack hx (y := (⟨"com/example/ms2rank/ms2rank/candidate/Unpacker", "atEnd", "()Z"⟩ : MethodName)) (z := (⟨"com/example/ms2rank/ms2rank/candidate/Unpacker", "atEnd", "()Z"⟩ : MethodName)) hown (mvT hZ (hw _ (List.mem_of_getElem? (i := 12) rfl))) (mvT hZ (hw _ (List.mem_of_getElem? (i := 13) rfl))) (notFace_of_selects (args := #[]) (mvT hZ (hw _ (List.mem_of_getElem? (i := 15) rfl)))) (mvT hZ (hw _ (List.mem_of_getElem? (i := 15) rfl))) (mvT hZ (hw _ (List.mem_of_getElem? (i := 14) rfl))) (by decide) (backOf (W := 0) (rm3 l Z a0 hw [] b16 ((0 : Int32)) (b9) (k9) ((1 : Int32)) (ys) T20.heap n0 Z20 p20_2 p20_1 f21) hZ (hw _ (List.mem_of_getElem? (i := 16) rfl)) (hw _ (List.mem_of_getElem? (i := 3) rfl)) (by decide) (by decide)) qv22a qv22c (g := (mkF m 84 #[.val (.int p1), .val (.int p2), .val (.int p3), .val (.int p4), .val (.int (1 : Int32)), .val (.ref b9), .val (.ref b16), .unset, .unset, .unset, .unset] [(.ref b16)])) rfl (by rw [hml]; rfl) (Steps.refl _) (argsL := []) (rest := []) (lenOf pd_0_2 rfl) rfl (by show 2 * 0 + _ ≤ _; exact Nat.le_of_eq rfl) (hb hby at_84) (fun _ _ => ⟨rfl, rfl, (by decide : 2 + 0 ≤ _), (by decide : 3 + 0 ≤ _)⟩)
    dsimp only [Pt.U, Pt.locs, Pt.cells, Pt.slots] at X22 l22 y22 z22 st22 hQ22
    obtain ⟨r22, rfl, hr22, N22q, e22⟩ := hQ22
    have N22 : Fr n0 L22 := by rw [l22]; exact Fr.app N20 N22q
    clear l22
    have y22' : k22 = 2 := y22
    have z22' : n22 = 3 := z22
    clear y22 z22
    subst y22' z22'
    refine own_tr st22 ?_
    show own_Go p e below K (T22.setTop (mkF m 87 #[.val (.int p1), .val (.int p2), .val (.int p3), .val (.int p4), .val (.int (1 : Int32)), .val (.ref b9), .val (.ref b16), .unset, .unset, .unset, .unset] [(.int r22)]))
    try clear X20 st22 N20 N22q
    refine own_st (fun t k => XS.iload X22.here hx rfl (hb hby at_87) rfl k) ?_
    show own_Go p e below K (T22.setTop (mkF m 89 #[.val (.int p1), .val (.int p2), .val (.int p3), .val (.int p4), .val (.int (1 : Int32)), .val (.ref b9), .val (.ref b16), .unset, .unset, .unset, .unset] [(.int (1 : Int32)), (.int r22)]))
    refine own_st (fun t k => XS.ifYes X22.here hx rfl (pc0 := 89) (pc' := 96) rfl (hb hby at_89) rfl ((if0 _ _).trans (feq (by decide : ¬ ((1 : Int32) = (0 : Int32)))).2) (by decide) (by decide) k) ?_
    show own_Go p e below K (T22.setTop (mkF m 96 #[.val (.int p1), .val (.int p2), .val (.int p3), .val (.int p4), .val (.int (1 : Int32)), .val (.ref b9), .val (.ref b16), .unset, .unset, .unset, .unset] [(.int r22)]))
    refine own_st (fun t k => XS.iconst X22.here hx rfl (hb hby at_96) k) ?_
    show own_Go p e below K (T22.setTop (mkF m 97 #[.val (.int p1), .val (.int p2), .val (.int p3), .val (.int p4), .val (.int (1 : Int32)), .val (.ref b9), .val (.ref b16), .unset, .unset, .unset, .unset] [(.int (0 : Int32)), (.int r22)]))
    refine own_st (fun t k => XS.icmpNo X22.here hx rfl (hb hby at_97) rfl (teq (own_B.zero hr22 (by decide) : r22 = (0 : Int32))).2 k) ?_
    show own_Go p e below K (T22.setTop (mkF m 100 #[.val (.int p1), .val (.int p2), .val (.int p3), .val (.int p4), .val (.int (1 : Int32)), .val (.ref b9), .val (.ref b16), .unset, .unset, .unset, .unset] []))
    refine own_st (fun t k => XS.iconst X22.here hx rfl (hb hby at_100) k) ?_
    show own_Go p e below K (T22.setTop (mkF m 101 #[.val (.int p1), .val (.int p2), .val (.int p3), .val (.int p4), .val (.int (1 : Int32)), .val (.ref b9), .val (.ref b16), .unset, .unset, .unset, .unset] [(.int (1 : Int32))]))
    refine own_st (fun t k => XS.goto X22.here hx rfl (pc0 := 101) (pc' := 105) rfl (hb hby at_101) (by decide) (by decide) k) ?_
    show own_Go p e below K (T22.setTop (mkF m 105 #[.val (.int p1), .val (.int p2), .val (.int p3), .val (.int p4), .val (.int (1 : Int32)), .val (.ref b9), .val (.ref b16), .unset, .unset, .unset, .unset] [(.int (1 : Int32))]))
    refine own_st (fun t k => XS.istore X22.here hx rfl (hb hby at_105) rfl (l' := #[.val (.int p1), .val (.int p2), .val (.int p3), .val (.int p4), .val (.int (1 : Int32)), .val (.ref b9), .val (.ref b16), .val (.int (1 : Int32)), .unset, .unset, .unset]) rfl k) ?_
    show own_Go p e below K (T22.setTop (mkF m 107 #[.val (.int p1), .val (.int p2), .val (.int p3), .val (.int p4), .val (.int (1 : Int32)), .val (.ref b9), .val (.ref b16), .val (.int (1 : Int32)), .unset, .unset, .unset] []))
    refine own_st (fun t k => XS.iload X22.here hx rfl (hb hby at_107) rfl k) ?_
    show own_Go p e below K (T22.setTop (mkF m 109 #[.val (.int p1), .val (.int p2), .val (.int p3), .val (.int p4), .val (.int (1 : Int32)), .val (.ref b9), .val (.ref b16), .val (.int (1 : Int32)), .unset, .unset, .unset] [(.int (1 : Int32))]))
    refine own_st (fun t k => XS.ifYes X22.here hx rfl (pc0 := 109) (pc' := 115) rfl (hb hby at_109) rfl ((if0 _ _).trans (feq (by decide : ¬ ((1 : Int32) = (0 : Int32)))).2) (by decide) (by decide) k) ?_
    show own_Go p e below K (T22.setTop (mkF m 115 #[.val (.int p1), .val (.int p2), .val (.int p3), .val (.int p4), .val (.int (1 : Int32)), .val (.ref b9), .val (.ref b16), .val (.int (1 : Int32)), .unset, .unset, .unset] []))
    refine own_st (fun t k => XS.aload X22.here hx rfl (hb hby at_115) rfl rfl k) ?_
    show own_Go p e below K (T22.setTop (mkF m 117 #[.val (.int p1), .val (.int p2), .val (.int p3), .val (.int p4), .val (.int (1 : Int32)), .val (.ref b9), .val (.ref b16), .val (.int (1 : Int32)), .unset, .unset, .unset] [(.ref b9)]))
    refine own_st (fun t k => XS.iconst X22.here hx rfl (hb hby at_117) k) ?_
    show own_Go p e below K (T22.setTop (mkF m 118 #[.val (.int p1), .val (.int p2), .val (.int p3), .val (.int p4), .val (.int (1 : Int32)), .val (.ref b9), .val (.ref b16), .val (.int (1 : Int32)), .unset, .unset, .unset] [(.int (0 : Int32)), (.ref b9)]))
    obtain ⟨_, _, ⟨T23, L23, k23, n23⟩, -, X23, ⟨Lc23, hQ23, l23, y23, z23⟩, st23⟩ := Jvm.LawKit.callS X22 hx (y := (⟨"com/example/ms2rank/ms2rank/candidate/UnpackerAtEndPinLaw", "next", "([BI)I"⟩ : MethodName)) hown (mvT hZ (hw _ (List.mem_of_getElem? (i := 19) rfl))) (mvT hZ (hw _ (List.mem_of_getElem? (i := 20) rfl))) (mvT hZ (hw _ (List.mem_of_getElem? (i := 21) rfl))) (mvT hZ (hw _ (List.mem_of_getElem? (i := 22) rfl))) (by decide) (backOf (W := 0) (rm4 l Z a0 hw [] b9 (0 : Int32) (k9) ((1 : Int32)) (ys) T20.heap n0 Z20 f21 (by decide)) hZ (hw _ (List.mem_of_getElem? (i := 22) rfl)) (hw _ (List.mem_of_getElem? (i := 21) rfl)) (by decide) (by decide)) (g := (mkF m 118 #[.val (.int p1), .val (.int p2), .val (.int p3), .val (.int p4), .val (.int (1 : Int32)), .val (.ref b9), .val (.ref b16), .val (.int (1 : Int32)), .unset, .unset, .unset] [(.int (0 : Int32)), (.ref b9)])) rfl (by rw [hml]; rfl) (argsL := [(.ref b9), (.int (0 : Int32))]) (rest := []) (lenOf pd_0_3 rfl) rfl (by show 2 * 0 + _ ≤ _; exact Nat.le_of_eq rfl) (hb hby at_118) (fun _ _ => ⟨rfl, e22, (by decide : 2 + 0 ≤ _), (by decide : 3 + 0 ≤ _)⟩)
    dsimp only [Pt.U, Pt.locs, Pt.cells, Pt.slots] at X23 l23 y23 z23 st23 hQ23
    obtain ⟨r23, rfl, hr23, N23q, e23⟩ := hQ23
    have N23 : Fr n0 L23 := by rw [l23]; exact Fr.app N22 N23q
    clear l23
    have y23' : k23 = 2 := y23
    have z23' : n23 = 3 := z23
    clear y23 z23
    subst y23' z23'
    refine own_st st23 ?_
    show own_Go p e below K (T23.setTop (mkF m 121 #[.val (.int p1), .val (.int p2), .val (.int p3), .val (.int p4), .val (.int (1 : Int32)), .val (.ref b9), .val (.ref b16), .val (.int (1 : Int32)), .unset, .unset, .unset] [(.int r23)]))
    try clear X22 e22 st23 N22 N23q
    rcases own_N0 hr23 with ⟨rfl, hA⟩ | ⟨rfl, hB, hA⟩ | ⟨rfl, hB, hB'⟩
    · show own_Go p e below K (T23.setTop (mkF m 121 #[.val (.int p1), .val (.int p2), .val (.int p3), .val (.int p4), .val (.int (1 : Int32)), .val (.ref b9), .val (.ref b16), .val (.int (1 : Int32)), .unset, .unset, .unset] [(.int (1 : Int32))]))
      refine own_st (fun t k => XS.istore X23.here hx rfl (hb hby at_121) rfl (l' := #[.val (.int p1), .val (.int p2), .val (.int p3), .val (.int p4), .val (.int (1 : Int32)), .val (.ref b9), .val (.ref b16), .val (.int (1 : Int32)), .val (.int (1 : Int32)), .unset, .unset]) rfl k) ?_
      show own_Go p e below K (T23.setTop (mkF m 123 #[.val (.int p1), .val (.int p2), .val (.int p3), .val (.int p4), .val (.int (1 : Int32)), .val (.ref b9), .val (.ref b16), .val (.int (1 : Int32)), .val (.int (1 : Int32)), .unset, .unset] []))
      refine own_st (fun t k => XS.aload X23.here hx rfl (hb hby at_123) rfl rfl k) ?_
      show own_Go p e below K (T23.setTop (mkF m 125 #[.val (.int p1), .val (.int p2), .val (.int p3), .val (.int p4), .val (.int (1 : Int32)), .val (.ref b9), .val (.ref b16), .val (.int (1 : Int32)), .val (.int (1 : Int32)), .unset, .unset] [(.ref b16)]))
      obtain ⟨cq24, kq24, qv24a, qv24b, qv24c⟩ := isOf hZ e23 p20_0
      obtain ⟨_, _, ⟨T24, L24, k24, n24⟩, -, X24, ⟨Lc24, hQ24, l24, y24, z24⟩, st24⟩ := X23.virtualBack hx (y := (⟨"com/example/ms2rank/ms2rank/candidate/Unpacker", "number", "()I"⟩ : MethodName)) (z := (⟨"com/example/ms2rank/ms2rank/candidate/Unpacker", "number", "()I"⟩ : MethodName)) hown (mvT hZ (hw _ (List.mem_of_getElem? (i := 23) rfl))) (mvT hZ (hw _ (List.mem_of_getElem? (i := 24) rfl))) (notFace_of_selects (args := #[]) (mvT hZ (hw _ (List.mem_of_getElem? (i := 26) rfl)))) (mvT hZ (hw _ (List.mem_of_getElem? (i := 26) rfl))) (mvT hZ (hw _ (List.mem_of_getElem? (i := 25) rfl))) (by decide) (backOf (W := 0) (rm5 l Z a0 hw [] b16 ((0 : Int32)) (b9) (k9) ((1 : Int32)) (ys) (0) (0) T20.heap n0 Z20 g_b16 (Ne.symm ne_b9_b16) p20_0 p20_2 p20_1 f21 (by decide) (by decide) (by decide) (own_ng0 0) yl) hZ (hw _ (List.mem_of_getElem? (i := 27) rfl)) (hw _ (List.mem_of_getElem? (i := 3) rfl)) (by decide) (by decide)) qv24a qv24c (g := (mkF m 125 #[.val (.int p1), .val (.int p2), .val (.int p3), .val (.int p4), .val (.int (1 : Int32)), .val (.ref b9), .val (.ref b16), .val (.int (1 : Int32)), .val (.int (1 : Int32)), .unset, .unset] [(.ref b16)])) rfl (by rw [hml]; rfl) (Steps.refl _) (argsL := []) (rest := []) (lenOf pd_0_4 rfl) rfl (by show 2 * 0 + _ ≤ _; exact Nat.le_of_eq rfl) (hb hby at_125) (fun _ _ => ⟨rfl, e23, (by decide : 2 + 0 ≤ _), (by decide : 3 + 0 ≤ _)⟩)
      dsimp only [Pt.U, Pt.locs, Pt.cells, Pt.slots] at X24 l24 y24 z24 st24 hQ24
      obtain ⟨r24, xq_24, rfl, hr24, N24q, Kq24, p24_0, p24_1, p24_2, pp24_0⟩ := hQ24
      have N24 : Fr n0 L24 := by rw [l24]; exact Fr.app N23 N24q
      clear l24
      have y24' : k24 = 2 := y24
      have z24' : n24 = 3 := z24
      clear y24 z24
      subst y24' z24'
      have f25 : Arv Z T24.heap b9 k9 .byte (1 : Int32) (ys.map Value.int) (.int (0 : Int32)) := f21.keep Kq24 (ninS ne_b9_b16 nin0)
      have Z24 : n0 ≤ T24.heap.size := Nat.le_trans Z20 Kq24.1
      refine own_tr st24 ?_
      show own_Go p e below K (T24.setTop (mkF m 128 #[.val (.int p1), .val (.int p2), .val (.int p3), .val (.int p4), .val (.int (1 : Int32)), .val (.ref b9), .val (.ref b16), .val (.int (1 : Int32)), .val (.int (1 : Int32)), .unset, .unset] [(.int r24)]))
      try clear X23 e23 st24 N23 N24q f21
      obtain rfl := (Int32.toInt_inj.mp (pp24_0 : xq_24.toInt = ((0 + 1 : Nat) : Int)) : xq_24 = (1 : Int32))
      show own_Go p e below K (T24.setTop (mkF m 128 #[.val (.int p1), .val (.int p2), .val (.int p3), .val (.int p4), .val (.int (1 : Int32)), .val (.ref b9), .val (.ref b16), .val (.int (1 : Int32)), .val (.int (1 : Int32)), .unset, .unset] [(.int r24)]))
      refine own_st (fun t k => XS.pop X24.here hx rfl (hb hby at_128) rfl rfl k) ?_
      show own_Go p e below K (T24.setTop (mkF m 129 #[.val (.int p1), .val (.int p2), .val (.int p3), .val (.int p4), .val (.int (1 : Int32)), .val (.ref b9), .val (.ref b16), .val (.int (1 : Int32)), .val (.int (1 : Int32)), .unset, .unset] []))
      refine own_st (fun t k => XS.iload X24.here hx rfl (hb hby at_129) rfl k) ?_
      show own_Go p e below K (T24.setTop (mkF m 131 #[.val (.int p1), .val (.int p2), .val (.int p3), .val (.int p4), .val (.int (1 : Int32)), .val (.ref b9), .val (.ref b16), .val (.int (1 : Int32)), .val (.int (1 : Int32)), .unset, .unset] [(.int (1 : Int32))]))
      refine own_st (fun t k => XS.ifNo X24.here hx rfl (hb hby at_131) rfl ((if0 _ _).trans (feq (by decide : ¬ ((1 : Int32) = (0 : Int32)))).1) k) ?_
      show own_Go p e below K (T24.setTop (mkF m 134 #[.val (.int p1), .val (.int p2), .val (.int p3), .val (.int p4), .val (.int (1 : Int32)), .val (.ref b9), .val (.ref b16), .val (.int (1 : Int32)), .val (.int (1 : Int32)), .unset, .unset] []))
      refine own_st (fun t k => XS.aload X24.here hx rfl (hb hby at_134) rfl rfl k) ?_
      show own_Go p e below K (T24.setTop (mkF m 136 #[.val (.int p1), .val (.int p2), .val (.int p3), .val (.int p4), .val (.int (1 : Int32)), .val (.ref b9), .val (.ref b16), .val (.int (1 : Int32)), .val (.int (1 : Int32)), .unset, .unset] [(.ref b16)]))
      obtain ⟨cq26, kq26, qv26a, qv26b, qv26c⟩ := isOf hZ rfl p24_0
      obtain ⟨_, _, ⟨T26, L26, k26, n26⟩, -, X26, ⟨Lc26, hQ26, l26, y26, z26⟩, st26⟩ := X24.virtualBack hx (y := (⟨"com/example/ms2rank/ms2rank/candidate/Unpacker", "atEnd", "()Z"⟩ : MethodName)) (z := (⟨"com/example/ms2rank/ms2rank/candidate/Unpacker", "atEnd", "()Z"⟩ : MethodName)) hown (mvT hZ (hw _ (List.mem_of_getElem? (i := 12) rfl))) (mvT hZ (hw _ (List.mem_of_getElem? (i := 13) rfl))) (notFace_of_selects (args := #[]) (mvT hZ (hw _ (List.mem_of_getElem? (i := 15) rfl)))) (mvT hZ (hw _ (List.mem_of_getElem? (i := 15) rfl))) (mvT hZ (hw _ (List.mem_of_getElem? (i := 14) rfl))) (by decide) (backOf (W := 0) (rm3 l Z a0 hw [] b16 ((1 : Int32)) (b9) (k9) ((1 : Int32)) (ys) T24.heap n0 Z24 p24_2 p24_1 f25) hZ (hw _ (List.mem_of_getElem? (i := 16) rfl)) (hw _ (List.mem_of_getElem? (i := 3) rfl)) (by decide) (by decide)) qv26a qv26c (g := (mkF m 136 #[.val (.int p1), .val (.int p2), .val (.int p3), .val (.int p4), .val (.int (1 : Int32)), .val (.ref b9), .val (.ref b16), .val (.int (1 : Int32)), .val (.int (1 : Int32)), .unset, .unset] [(.ref b16)])) rfl (by rw [hml]; rfl) (Steps.refl _) (argsL := []) (rest := []) (lenOf pd_0_2 rfl) rfl (by show 2 * 0 + _ ≤ _; exact Nat.le_of_eq rfl) (hb hby at_136) (fun _ _ => ⟨rfl, rfl, (by decide : 2 + 0 ≤ _), (by decide : 3 + 0 ≤ _)⟩)
      dsimp only [Pt.U, Pt.locs, Pt.cells, Pt.slots] at X26 l26 y26 z26 st26 hQ26
      obtain ⟨r26, rfl, hr26, N26q, e26⟩ := hQ26
      have N26 : Fr n0 L26 := by rw [l26]; exact Fr.app N24 N26q
      clear l26
      have y26' : k26 = 2 := y26
      have z26' : n26 = 3 := z26
      clear y26 z26
      subst y26' z26'
      refine own_tr st26 ?_
      show own_Go p e below K (T26.setTop (mkF m 139 #[.val (.int p1), .val (.int p2), .val (.int p3), .val (.int p4), .val (.int (1 : Int32)), .val (.ref b9), .val (.ref b16), .val (.int (1 : Int32)), .val (.int (1 : Int32)), .unset, .unset] [(.int r26)]))
      try clear X24 st26 N24 N26q
      refine own_st (fun t k => XS.iload X26.here hx rfl (hb hby at_139) rfl k) ?_
      show own_Go p e below K (T26.setTop (mkF m 141 #[.val (.int p1), .val (.int p2), .val (.int p3), .val (.int p4), .val (.int (1 : Int32)), .val (.ref b9), .val (.ref b16), .val (.int (1 : Int32)), .val (.int (1 : Int32)), .unset, .unset] [(.int (1 : Int32)), (.int r26)]))
      refine own_st (fun t k => XS.iload X26.here hx rfl (hb hby at_141) rfl k) ?_
      show own_Go p e below K (T26.setTop (mkF m 143 #[.val (.int p1), .val (.int p2), .val (.int p3), .val (.int p4), .val (.int (1 : Int32)), .val (.ref b9), .val (.ref b16), .val (.int (1 : Int32)), .val (.int (1 : Int32)), .unset, .unset] [(.int (1 : Int32)), (.int (1 : Int32)), (.int r26)]))
      refine own_st (fun t k => XS.icmpNo X26.here hx rfl (hb hby at_143) rfl (teq (by decide : (1 : Int32) = (1 : Int32))).2 k) ?_
      show own_Go p e below K (T26.setTop (mkF m 146 #[.val (.int p1), .val (.int p2), .val (.int p3), .val (.int p4), .val (.int (1 : Int32)), .val (.ref b9), .val (.ref b16), .val (.int (1 : Int32)), .val (.int (1 : Int32)), .unset, .unset] [(.int r26)]))
      refine own_st (fun t k => XS.iconst X26.here hx rfl (hb hby at_146) k) ?_
      show own_Go p e below K (T26.setTop (mkF m 147 #[.val (.int p1), .val (.int p2), .val (.int p3), .val (.int p4), .val (.int (1 : Int32)), .val (.ref b9), .val (.ref b16), .val (.int (1 : Int32)), .val (.int (1 : Int32)), .unset, .unset] [(.int (1 : Int32)), (.int r26)]))
      refine own_st (fun t k => XS.goto X26.here hx rfl (pc0 := 147) (pc' := 151) rfl (hb hby at_147) (by decide) (by decide) k) ?_
      show own_Go p e below K (T26.setTop (mkF m 151 #[.val (.int p1), .val (.int p2), .val (.int p3), .val (.int p4), .val (.int (1 : Int32)), .val (.ref b9), .val (.ref b16), .val (.int (1 : Int32)), .val (.int (1 : Int32)), .unset, .unset] [(.int (1 : Int32)), (.int r26)]))
      refine own_st (fun t k => XS.icmpNo X26.here hx rfl (hb hby at_151) rfl (teq (own_B.one hr26 (by decide) : r26 = (1 : Int32))).2 k) ?_
      show own_Go p e below K (T26.setTop (mkF m 154 #[.val (.int p1), .val (.int p2), .val (.int p3), .val (.int p4), .val (.int (1 : Int32)), .val (.ref b9), .val (.ref b16), .val (.int (1 : Int32)), .val (.int (1 : Int32)), .unset, .unset] []))
      refine own_st (fun t k => XS.iconst X26.here hx rfl (hb hby at_154) k) ?_
      show own_Go p e below K (T26.setTop (mkF m 155 #[.val (.int p1), .val (.int p2), .val (.int p3), .val (.int p4), .val (.int (1 : Int32)), .val (.ref b9), .val (.ref b16), .val (.int (1 : Int32)), .val (.int (1 : Int32)), .unset, .unset] [(.int (1 : Int32))]))
      refine own_st (fun t k => XS.goto X26.here hx rfl (pc0 := 155) (pc' := 159) rfl (hb hby at_155) (by decide) (by decide) k) ?_
      show own_Go p e below K (T26.setTop (mkF m 159 #[.val (.int p1), .val (.int p2), .val (.int p3), .val (.int p4), .val (.int (1 : Int32)), .val (.ref b9), .val (.ref b16), .val (.int (1 : Int32)), .val (.int (1 : Int32)), .unset, .unset] [(.int (1 : Int32))]))
      refine own_st (fun t k => XS.istore X26.here hx rfl (hb hby at_159) rfl (l' := #[.val (.int p1), .val (.int p2), .val (.int p3), .val (.int p4), .val (.int (1 : Int32)), .val (.ref b9), .val (.ref b16), .val (.int (1 : Int32)), .val (.int (1 : Int32)), .unset, .unset]) rfl k) ?_
      show own_Go p e below K (T26.setTop (mkF m 161 #[.val (.int p1), .val (.int p2), .val (.int p3), .val (.int p4), .val (.int (1 : Int32)), .val (.ref b9), .val (.ref b16), .val (.int (1 : Int32)), .val (.int (1 : Int32)), .unset, .unset] []))
      refine own_st (fun t k => XS.iload X26.here hx rfl (hb hby at_161) rfl k) ?_
      show own_Go p e below K (T26.setTop (mkF m 163 #[.val (.int p1), .val (.int p2), .val (.int p3), .val (.int p4), .val (.int (1 : Int32)), .val (.ref b9), .val (.ref b16), .val (.int (1 : Int32)), .val (.int (1 : Int32)), .unset, .unset] [(.int (1 : Int32))]))
      refine own_st (fun t k => XS.iload X26.here hx rfl (hb hby at_163) rfl k) ?_
      show own_Go p e below K (T26.setTop (mkF m 165 #[.val (.int p1), .val (.int p2), .val (.int p3), .val (.int p4), .val (.int (1 : Int32)), .val (.ref b9), .val (.ref b16), .val (.int (1 : Int32)), .val (.int (1 : Int32)), .unset, .unset] [(.int (1 : Int32)), (.int (1 : Int32))]))
      refine own_st (fun t k => XS.icmpYes X26.here hx rfl (pc0 := 165) (pc' := 269) rfl (hb hby at_165) rfl (flt (by decide : ¬ ((1 : Int32) < (1 : Int32)))).2.1 (by decide) (by decide) k) ?_
      show own_Go p e below K (T26.setTop (mkF m 269 #[.val (.int p1), .val (.int p2), .val (.int p3), .val (.int p4), .val (.int (1 : Int32)), .val (.ref b9), .val (.ref b16), .val (.int (1 : Int32)), .val (.int (1 : Int32)), .unset, .unset] []))
      refine own_st (fun t k => XS.iload X26.here hx rfl (hb hby at_269) rfl k) ?_
      show own_Go p e below K (T26.setTop (mkF m 271 #[.val (.int p1), .val (.int p2), .val (.int p3), .val (.int p4), .val (.int (1 : Int32)), .val (.ref b9), .val (.ref b16), .val (.int (1 : Int32)), .val (.int (1 : Int32)), .unset, .unset] [(.int (1 : Int32))]))
      obtain ⟨fs, hr, hrun, hended, hW, hsame⟩ := X26.leave (v := some (.int (nar .boolean (1 : Int32)))) (fun h => by rw [Bd.returns] at h; cases h)
      refine ⟨_, retN X26 hx (t := .boolean) Bd.returns (by simp) (hb hby at_271) hr, fin _ _ _ hrun hended ?_ ⟨⟨_, rfl⟩, hW, hsame.mono (by decide) (by decide)⟩⟩
      show Q0 Z p1 p2 p3 p4 h0 n0 _ T26.heap _
      rw [e26]
      exact ⟨rfl, N26⟩
    · exact absurd hA.1 (by decide)
    exact absurd ⟨by decide, yl⟩ hB
  · subst hs
    show own_Go p e below K (s₁.setTop (mkF m 3 #[.val (.int p1), .val (.int p2), .val (.int p3), .val (.int p4), .unset, .unset, .unset, .unset, .unset, .unset, .unset] [(.int (2 : Int32))]))
    refine own_st (fun t k => XS.istore X0.here hx rfl (hb hby at_3) rfl (l' := #[.val (.int p1), .val (.int p2), .val (.int p3), .val (.int p4), .val (.int (2 : Int32)), .unset, .unset, .unset, .unset, .unset, .unset]) rfl k) ?_
    show own_Go p e below K (s₁.setTop (mkF m 5 #[.val (.int p1), .val (.int p2), .val (.int p3), .val (.int p4), .val (.int (2 : Int32)), .unset, .unset, .unset, .unset, .unset, .unset] []))
    refine own_st (fun t k => XS.iload X0.here hx rfl (hb hby at_5) rfl k) ?_
    show own_Go p e below K (s₁.setTop (mkF m 7 #[.val (.int p1), .val (.int p2), .val (.int p3), .val (.int p4), .val (.int (2 : Int32)), .unset, .unset, .unset, .unset, .unset, .unset] [(.int (2 : Int32))]))
    obtain ⟨T27, h27, k27, X27, e27, E27, A27, st27⟩ := newP X0 hx hZ (hw _ (List.mem_of_getElem? (i := 0) rfl)) e0 (g := (mkF m 7 #[.val (.int p1), .val (.int p2), .val (.int p3), .val (.int p4), .val (.int (2 : Int32)), .unset, .unset, .unset, .unset, .unset, .unset] [(.int (2 : Int32))])) rfl (hb hby at_7) rfl (by decide) (cap := 2) (by decide) (by decide) (by decide) (by decide)
    obtain ⟨b27, g27⟩ : ∃ z, z = h0.size := ⟨_, rfl⟩
    rw [← g27] at A27 st27
    have g_b27 : n0 ≤ b27 := Nat.le_trans Z0 (Nat.le_of_eq g27.symm)
    have V27 : Arv Z h27 b27 k27 .byte (2 : Int32) [(.int (0 : Int32)), (.int (0 : Int32))] (.int (0 : Int32)) := (Arv.new A27 (by decide)).pad (pad_rep [] (.int (0 : Int32)) 2)
    have Z27 : n0 ≤ h27.size := Nat.le_trans Z0 E27.1
    refine own_st st27 ?_
    show own_Go p e below K (T27.setTop (mkF m 9 #[.val (.int p1), .val (.int p2), .val (.int p3), .val (.int p4), .val (.int (2 : Int32)), .unset, .unset, .unset, .unset, .unset, .unset] [(.ref b27)]))
    try clear st27
    refine own_st (fun t k => XS.astore X27.here hx rfl (hb hby at_9) rfl rfl (l' := #[.val (.int p1), .val (.int p2), .val (.int p3), .val (.int p4), .val (.int (2 : Int32)), .val (.ref b27), .unset, .unset, .unset, .unset, .unset]) rfl k) ?_
    show own_Go p e below K (T27.setTop (mkF m 11 #[.val (.int p1), .val (.int p2), .val (.int p3), .val (.int p4), .val (.int (2 : Int32)), .val (.ref b27), .unset, .unset, .unset, .unset, .unset] []))
    refine own_st (fun t k => XS.iload X27.here hx rfl (hb hby at_11) rfl k) ?_
    show own_Go p e below K (T27.setTop (mkF m 13 #[.val (.int p1), .val (.int p2), .val (.int p3), .val (.int p4), .val (.int (2 : Int32)), .val (.ref b27), .unset, .unset, .unset, .unset, .unset] [(.int (2 : Int32))]))
    refine own_st (fun t k => XS.iconst X27.here hx rfl (hb hby at_13) k) ?_
    show own_Go p e below K (T27.setTop (mkF m 14 #[.val (.int p1), .val (.int p2), .val (.int p3), .val (.int p4), .val (.int (2 : Int32)), .val (.ref b27), .unset, .unset, .unset, .unset, .unset] [(.int (1 : Int32)), (.int (2 : Int32))]))
    refine own_st (fun t k => XS.icmpNo X27.here hx rfl (hb hby at_14) rfl (flt (by decide : ¬ ((2 : Int32) < (1 : Int32)))).1 k) ?_
    show own_Go p e below K (T27.setTop (mkF m 17 #[.val (.int p1), .val (.int p2), .val (.int p3), .val (.int p4), .val (.int (2 : Int32)), .val (.ref b27), .unset, .unset, .unset, .unset, .unset] []))
    refine own_st (fun t k => XS.aload X27.here hx rfl (hb hby at_17) rfl rfl k) ?_
    show own_Go p e below K (T27.setTop (mkF m 19 #[.val (.int p1), .val (.int p2), .val (.int p3), .val (.int p4), .val (.int (2 : Int32)), .val (.ref b27), .unset, .unset, .unset, .unset, .unset] [(.ref b27)]))
    refine own_st (fun t k => XS.iconst X27.here hx rfl (hb hby at_19) k) ?_
    show own_Go p e below K (T27.setTop (mkF m 20 #[.val (.int p1), .val (.int p2), .val (.int p3), .val (.int p4), .val (.int (2 : Int32)), .val (.ref b27), .unset, .unset, .unset, .unset, .unset] [(.int (0 : Int32)), (.ref b27)]))
    refine own_st (fun t k => XS.iloadN X27.here hx rfl (hb hby at_20) rfl k) ?_
    show own_Go p e below K (T27.setTop (mkF m 21 #[.val (.int p1), .val (.int p2), .val (.int p3), .val (.int p4), .val (.int (2 : Int32)), .val (.ref b27), .unset, .unset, .unset, .unset, .unset] [(.int p2), (.int (0 : Int32)), (.ref b27)]))
    refine own_st (fun t k => XS.i2b X27.here hx rfl (hb hby at_21) rfl k) ?_
    show own_Go p e below K (T27.setTop (mkF m 22 #[.val (.int p1), .val (.int p2), .val (.int p3), .val (.int p4), .val (.int (2 : Int32)), .val (.ref b27), .unset, .unset, .unset, .unset, .unset] [(.int (p2.toInt8.toInt32)), (.int (0 : Int32)), (.ref b27)]))
    obtain ⟨cl28, Ar28, qa28, Sa28, Ma28, Ha28, Ga28⟩ := id V27
    have hin28 : ¬ ((0 : Int32) < 0 ∨ cl28.slots.size ≤ ((0 : Int32)).toNatClampNeg) := inb_of Sa28 ⟨by decide, by decide⟩
    obtain ⟨T29, h29, X29, e29, W29, st29⟩ := stB X27 hx hZ e27 Ar28 (j := (0 : Int32)) hin28 (g := (mkF m 22 #[.val (.int p1), .val (.int p2), .val (.int p3), .val (.int p4), .val (.int (2 : Int32)), .val (.ref b27), .unset, .unset, .unset, .unset, .unset] [(.int (p2.toInt8.toInt32)), (.int (0 : Int32)), (.ref b27)])) rfl rfl (hb hby at_22)
    have id29 : nar .byte (p2.toInt8.toInt32) = (p2.toInt8.toInt32) := (own_nb _)
    rw [id29] at W29
    have V29 : Arv Z h29 b27 k27 .byte (2 : Int32) [(.int (p2.toInt8.toInt32)), (.int (0 : Int32))] (.int (0 : Int32)) := Arv.set Ar28 qa28 Sa28 Ma28 Ha28 Ga28 (own_fit id29) W29 0 rfl (Nat.le_of_ble_eq_true rfl)
    have N29 := Fr.snoc X29 N0 g_b27
    have Z29 : n0 ≤ h29.size := Nat.le_trans Z27 (Keep.of_wr W29).1
    refine own_st st29 ?_
    show own_Go p e below K (T29.setTop (mkF m 23 #[.val (.int p1), .val (.int p2), .val (.int p3), .val (.int p4), .val (.int (2 : Int32)), .val (.ref b27), .unset, .unset, .unset, .unset, .unset] []))
    try clear X27 e27 st29
    refine own_st (fun t k => XS.iload X29.here hx rfl (hb hby at_23) rfl k) ?_
    show own_Go p e below K (T29.setTop (mkF m 25 #[.val (.int p1), .val (.int p2), .val (.int p3), .val (.int p4), .val (.int (2 : Int32)), .val (.ref b27), .unset, .unset, .unset, .unset, .unset] [(.int (2 : Int32))]))
    refine own_st (fun t k => XS.iconst X29.here hx rfl (hb hby at_25) k) ?_
    show own_Go p e below K (T29.setTop (mkF m 26 #[.val (.int p1), .val (.int p2), .val (.int p3), .val (.int p4), .val (.int (2 : Int32)), .val (.ref b27), .unset, .unset, .unset, .unset, .unset] [(.int (2 : Int32)), (.int (2 : Int32))]))
    refine own_st (fun t k => XS.icmpNo X29.here hx rfl (hb hby at_26) rfl (flt (by decide : ¬ ((2 : Int32) < (2 : Int32)))).1 k) ?_
    show own_Go p e below K (T29.setTop (mkF m 29 #[.val (.int p1), .val (.int p2), .val (.int p3), .val (.int p4), .val (.int (2 : Int32)), .val (.ref b27), .unset, .unset, .unset, .unset, .unset] []))
    refine own_st (fun t k => XS.aload X29.here hx rfl (hb hby at_29) rfl rfl k) ?_
    show own_Go p e below K (T29.setTop (mkF m 31 #[.val (.int p1), .val (.int p2), .val (.int p3), .val (.int p4), .val (.int (2 : Int32)), .val (.ref b27), .unset, .unset, .unset, .unset, .unset] [(.ref b27)]))
    refine own_st (fun t k => XS.iconst X29.here hx rfl (hb hby at_31) k) ?_
    show own_Go p e below K (T29.setTop (mkF m 32 #[.val (.int p1), .val (.int p2), .val (.int p3), .val (.int p4), .val (.int (2 : Int32)), .val (.ref b27), .unset, .unset, .unset, .unset, .unset] [(.int (1 : Int32)), (.ref b27)]))
    refine own_st (fun t k => XS.iloadN X29.here hx rfl (hb hby at_32) rfl k) ?_
    show own_Go p e below K (T29.setTop (mkF m 33 #[.val (.int p1), .val (.int p2), .val (.int p3), .val (.int p4), .val (.int (2 : Int32)), .val (.ref b27), .unset, .unset, .unset, .unset, .unset] [(.int p3), (.int (1 : Int32)), (.ref b27)]))
    refine own_st (fun t k => XS.i2b X29.here hx rfl (hb hby at_33) rfl k) ?_
    show own_Go p e below K (T29.setTop (mkF m 34 #[.val (.int p1), .val (.int p2), .val (.int p3), .val (.int p4), .val (.int (2 : Int32)), .val (.ref b27), .unset, .unset, .unset, .unset, .unset] [(.int (p3.toInt8.toInt32)), (.int (1 : Int32)), (.ref b27)]))
    obtain ⟨cl30, Ar30, qa30, Sa30, Ma30, Ha30, Ga30⟩ := id V29
    have hin30 : ¬ ((1 : Int32) < 0 ∨ cl30.slots.size ≤ ((1 : Int32)).toNatClampNeg) := inb_of Sa30 ⟨by decide, by decide⟩
    obtain ⟨T31, h31, X31, e31, W31, st31⟩ := stB X29 hx hZ e29 Ar30 (j := (1 : Int32)) hin30 (g := (mkF m 34 #[.val (.int p1), .val (.int p2), .val (.int p3), .val (.int p4), .val (.int (2 : Int32)), .val (.ref b27), .unset, .unset, .unset, .unset, .unset] [(.int (p3.toInt8.toInt32)), (.int (1 : Int32)), (.ref b27)])) rfl rfl (hb hby at_34)
    have id31 : nar .byte (p3.toInt8.toInt32) = (p3.toInt8.toInt32) := (own_nb _)
    rw [id31] at W31
    have V31 : Arv Z h31 b27 k27 .byte (2 : Int32) [(.int (p2.toInt8.toInt32)), (.int (p3.toInt8.toInt32))] (.int (0 : Int32)) := Arv.set Ar30 qa30 Sa30 Ma30 Ha30 Ga30 (own_fit id31) W31 1 rfl (Nat.le_of_ble_eq_true rfl)
    have N31 := Fr.snoc X31 N29 g_b27
    have Z31 : n0 ≤ h31.size := Nat.le_trans Z29 (Keep.of_wr W31).1
    refine own_st st31 ?_
    show own_Go p e below K (T31.setTop (mkF m 35 #[.val (.int p1), .val (.int p2), .val (.int p3), .val (.int p4), .val (.int (2 : Int32)), .val (.ref b27), .unset, .unset, .unset, .unset, .unset] []))
    try clear X29 e29 st31
    refine own_st (fun t k => XS.iload X31.here hx rfl (hb hby at_35) rfl k) ?_
    show own_Go p e below K (T31.setTop (mkF m 37 #[.val (.int p1), .val (.int p2), .val (.int p3), .val (.int p4), .val (.int (2 : Int32)), .val (.ref b27), .unset, .unset, .unset, .unset, .unset] [(.int (2 : Int32))]))
    refine own_st (fun t k => XS.iconst X31.here hx rfl (hb hby at_37) k) ?_
    show own_Go p e below K (T31.setTop (mkF m 38 #[.val (.int p1), .val (.int p2), .val (.int p3), .val (.int p4), .val (.int (2 : Int32)), .val (.ref b27), .unset, .unset, .unset, .unset, .unset] [(.int (3 : Int32)), (.int (2 : Int32))]))
    refine own_st (fun t k => XS.icmpYes X31.here hx rfl (pc0 := 38) (pc' := 47) rfl (hb hby at_38) rfl (tlt (by decide : (2 : Int32) < (3 : Int32))).1 (by decide) (by decide) k) ?_
    show own_Go p e below K (T31.setTop (mkF m 47 #[.val (.int p1), .val (.int p2), .val (.int p3), .val (.int p4), .val (.int (2 : Int32)), .val (.ref b27), .unset, .unset, .unset, .unset, .unset] []))
    refine own_st (fun t k => XS.iload X31.here hx rfl (hb hby at_47) rfl k) ?_
    show own_Go p e below K (T31.setTop (mkF m 49 #[.val (.int p1), .val (.int p2), .val (.int p3), .val (.int p4), .val (.int (2 : Int32)), .val (.ref b27), .unset, .unset, .unset, .unset, .unset] [(.int (2 : Int32))]))
    refine own_st (fun t k => XS.iconst X31.here hx rfl (hb hby at_49) k) ?_
    show own_Go p e below K (T31.setTop (mkF m 50 #[.val (.int p1), .val (.int p2), .val (.int p3), .val (.int p4), .val (.int (2 : Int32)), .val (.ref b27), .unset, .unset, .unset, .unset, .unset] [(.int (1 : Int32)), (.int (2 : Int32))]))
    refine own_st (fun t k => XS.icmpNo X31.here hx rfl (hb hby at_50) rfl (flt (by decide : ¬ ((2 : Int32) < (1 : Int32)))).1 k) ?_
    show own_Go p e below K (T31.setTop (mkF m 53 #[.val (.int p1), .val (.int p2), .val (.int p3), .val (.int p4), .val (.int (2 : Int32)), .val (.ref b27), .unset, .unset, .unset, .unset, .unset] []))
    refine own_st (fun t k => XS.aload X31.here hx rfl (hb hby at_53) rfl rfl k) ?_
    show own_Go p e below K (T31.setTop (mkF m 55 #[.val (.int p1), .val (.int p2), .val (.int p3), .val (.int p4), .val (.int (2 : Int32)), .val (.ref b27), .unset, .unset, .unset, .unset, .unset] [(.ref b27)]))
    refine own_st (fun t k => XS.iload X31.here hx rfl (hb hby at_55) rfl k) ?_
    show own_Go p e below K (T31.setTop (mkF m 57 #[.val (.int p1), .val (.int p2), .val (.int p3), .val (.int p4), .val (.int (2 : Int32)), .val (.ref b27), .unset, .unset, .unset, .unset, .unset] [(.int (2 : Int32)), (.ref b27)]))
    refine own_st (fun t k => XS.iconst X31.here hx rfl (hb hby at_57) k) ?_
    show own_Go p e below K (T31.setTop (mkF m 58 #[.val (.int p1), .val (.int p2), .val (.int p3), .val (.int p4), .val (.int (2 : Int32)), .val (.ref b27), .unset, .unset, .unset, .unset, .unset] [(.int (1 : Int32)), (.int (2 : Int32)), (.ref b27)]))
    refine own_st (fun t k => XS.isub X31.here hx rfl (hb hby at_58) rfl k) ?_
    show own_Go p e below K (T31.setTop (mkF m 59 #[.val (.int p1), .val (.int p2), .val (.int p3), .val (.int p4), .val (.int (2 : Int32)), .val (.ref b27), .unset, .unset, .unset, .unset, .unset] [(.int ((2 : Int32) - (1 : Int32))), (.ref b27)]))
    rw [show ((2 : Int32) - (1 : Int32)) = (1 : Int32) from by decide]
    show own_Go p e below K (T31.setTop (mkF m 59 #[.val (.int p1), .val (.int p2), .val (.int p3), .val (.int p4), .val (.int (2 : Int32)), .val (.ref b27), .unset, .unset, .unset, .unset, .unset] [(.int (1 : Int32)), (.ref b27)]))
    refine own_st (fun t k => XS.aload X31.here hx rfl (hb hby at_59) rfl rfl k) ?_
    show own_Go p e below K (T31.setTop (mkF m 61 #[.val (.int p1), .val (.int p2), .val (.int p3), .val (.int p4), .val (.int (2 : Int32)), .val (.ref b27), .unset, .unset, .unset, .unset, .unset] [(.ref b27), (.int (1 : Int32)), (.ref b27)]))
    refine own_st (fun t k => XS.iload X31.here hx rfl (hb hby at_61) rfl k) ?_
    show own_Go p e below K (T31.setTop (mkF m 63 #[.val (.int p1), .val (.int p2), .val (.int p3), .val (.int p4), .val (.int (2 : Int32)), .val (.ref b27), .unset, .unset, .unset, .unset, .unset] [(.int (2 : Int32)), (.ref b27), (.int (1 : Int32)), (.ref b27)]))
    refine own_st (fun t k => XS.iconst X31.here hx rfl (hb hby at_63) k) ?_
    show own_Go p e below K (T31.setTop (mkF m 64 #[.val (.int p1), .val (.int p2), .val (.int p3), .val (.int p4), .val (.int (2 : Int32)), .val (.ref b27), .unset, .unset, .unset, .unset, .unset] [(.int (1 : Int32)), (.int (2 : Int32)), (.ref b27), (.int (1 : Int32)), (.ref b27)]))
    refine own_st (fun t k => XS.isub X31.here hx rfl (hb hby at_64) rfl k) ?_
    show own_Go p e below K (T31.setTop (mkF m 65 #[.val (.int p1), .val (.int p2), .val (.int p3), .val (.int p4), .val (.int (2 : Int32)), .val (.ref b27), .unset, .unset, .unset, .unset, .unset] [(.int ((2 : Int32) - (1 : Int32))), (.ref b27), (.int (1 : Int32)), (.ref b27)]))
    rw [show ((2 : Int32) - (1 : Int32)) = (1 : Int32) from by decide]
    show own_Go p e below K (T31.setTop (mkF m 65 #[.val (.int p1), .val (.int p2), .val (.int p3), .val (.int p4), .val (.int (2 : Int32)), .val (.ref b27), .unset, .unset, .unset, .unset, .unset] [(.int (1 : Int32)), (.ref b27), (.int (1 : Int32)), (.ref b27)]))
    obtain ⟨cl32, Ar32, qa32, Sa32, Ma32, Ha32, Ga32⟩ := id V31
    have hin32 : ¬ ((1 : Int32) < 0 ∨ cl32.slots.size ≤ ((1 : Int32)).toNatClampNeg) := inb_of Sa32 ⟨by decide, by decide⟩
    refine own_st (X31.baloadBytes hx (j := (1 : Int32)) (v := (.int (p3.toInt8.toInt32))) (own_hat e31 Ar32.1) (State.isArrayOf_alike hZ.alike Ar32.2.1) Ar32.2.2 hin32 (Has.at Ha32 hin32 rfl) (g := (mkF m 65 #[.val (.int p1), .val (.int p2), .val (.int p3), .val (.int p4), .val (.int (2 : Int32)), .val (.ref b27), .unset, .unset, .unset, .unset, .unset] [(.int (1 : Int32)), (.ref b27), (.int (1 : Int32)), (.ref b27)])) rfl rfl (hb hby at_65)) ?_
    show own_Go p e below K (T31.setTop (mkF m 66 #[.val (.int p1), .val (.int p2), .val (.int p3), .val (.int p4), .val (.int (2 : Int32)), .val (.ref b27), .unset, .unset, .unset, .unset, .unset] [(.int (p3.toInt8.toInt32)), (.int (1 : Int32)), (.ref b27)]))
    refine own_st (fun t k => XS.bipush X31.here hx rfl (hb hby at_66) k) ?_
    show own_Go p e below K (T31.setTop (mkF m 68 #[.val (.int p1), .val (.int p2), .val (.int p3), .val (.int p4), .val (.int (2 : Int32)), .val (.ref b27), .unset, .unset, .unset, .unset, .unset] [(.int (127 : Int32)), (.int (p3.toInt8.toInt32)), (.int (1 : Int32)), (.ref b27)]))
    refine own_st (fun t k => XS.iand X31.here hx rfl (hb hby at_68) rfl k) ?_
    show own_Go p e below K (T31.setTop (mkF m 69 #[.val (.int p1), .val (.int p2), .val (.int p3), .val (.int p4), .val (.int (2 : Int32)), .val (.ref b27), .unset, .unset, .unset, .unset, .unset] [(.int ((p3.toInt8.toInt32) &&& (127 : Int32))), (.int (1 : Int32)), (.ref b27)]))
    refine own_st (fun t k => XS.i2b X31.here hx rfl (hb hby at_69) rfl k) ?_
    show own_Go p e below K (T31.setTop (mkF m 70 #[.val (.int p1), .val (.int p2), .val (.int p3), .val (.int p4), .val (.int (2 : Int32)), .val (.ref b27), .unset, .unset, .unset, .unset, .unset] [(.int (((p3.toInt8.toInt32) &&& (127 : Int32)).toInt8.toInt32)), (.int (1 : Int32)), (.ref b27)]))
    obtain ⟨cl33, Ar33, qa33, Sa33, Ma33, Ha33, Ga33⟩ := id V31
    have hin33 : ¬ ((1 : Int32) < 0 ∨ cl33.slots.size ≤ ((1 : Int32)).toNatClampNeg) := inb_of Sa33 ⟨by decide, by decide⟩
    obtain ⟨T34, h34, X34, e34, W34, st34⟩ := stB X31 hx hZ e31 Ar33 (j := (1 : Int32)) hin33 (g := (mkF m 70 #[.val (.int p1), .val (.int p2), .val (.int p3), .val (.int p4), .val (.int (2 : Int32)), .val (.ref b27), .unset, .unset, .unset, .unset, .unset] [(.int (((p3.toInt8.toInt32) &&& (127 : Int32)).toInt8.toInt32)), (.int (1 : Int32)), (.ref b27)])) rfl rfl (hb hby at_70)
    have id34 : nar .byte (((p3.toInt8.toInt32) &&& (127 : Int32)).toInt8.toInt32) = (((p3.toInt8.toInt32) &&& (127 : Int32)).toInt8.toInt32) := (own_nb _)
    rw [id34] at W34
    have V34 : Arv Z h34 b27 k27 .byte (2 : Int32) [(.int (p2.toInt8.toInt32)), (.int (((p3.toInt8.toInt32) &&& (127 : Int32)).toInt8.toInt32))] (.int (0 : Int32)) := Arv.set Ar33 qa33 Sa33 Ma33 Ha33 Ga33 (own_fit id34) W34 1 rfl (Nat.le_of_ble_eq_true rfl)
    have N34 := Fr.snoc X34 N31 g_b27
    have Z34 : n0 ≤ h34.size := Nat.le_trans Z31 (Keep.of_wr W34).1
    refine own_st st34 ?_
    show own_Go p e below K (T34.setTop (mkF m 71 #[.val (.int p1), .val (.int p2), .val (.int p3), .val (.int p4), .val (.int (2 : Int32)), .val (.ref b27), .unset, .unset, .unset, .unset, .unset] []))
    try clear X31 e31 st34
    obtain ⟨ys, hys⟩ : ∃ z : List Int32, z = [(p2.toInt8.toInt32), (((p3.toInt8.toInt32) &&& (127 : Int32)).toInt8.toInt32)] := ⟨_, rfl⟩
    have V35 : Arv Z h34 b27 k27 .byte (2 : Int32) (ys.map Value.int) (.int (0 : Int32)) := by rw [hys]; exact V34
    have yl : ¬ ys.getD 1 0 < 0 := by rw [hys]; exact own_pos _
    obtain ⟨T36, h36, X36, e36, E36, A36, D36, -, st36⟩ := newO X34 hx hZ hown (hw _ (List.mem_of_getElem? (i := 1) rfl)) (hw _ (List.mem_of_getElem? (i := 2) rfl)) (hw _ (List.mem_of_getElem? (i := 3) rfl)) e34 (g := (mkF m 71 #[.val (.int p1), .val (.int p2), .val (.int p3), .val (.int p4), .val (.int (2 : Int32)), .val (.ref b27), .unset, .unset, .unset, .unset, .unset] [])) rfl (hb hby at_71) (by decide) (by decide)
    obtain ⟨b36, g36⟩ : ∃ z, z = h34.size := ⟨_, rfl⟩
    rw [← g36] at A36 D36 st36
    have ne_b27_b36 : b27 ≠ b36 := Nat.ne_of_lt (Nat.lt_of_lt_of_le V35.lt (Nat.le_of_eq g36.symm))
    have g_b36 : n0 ≤ b36 := Nat.le_trans Z34 (Nat.le_of_eq g36.symm)
    have f37 : Arv Z h36 b27 k27 .byte (2 : Int32) (ys.map Value.int) (.int (0 : Int32)) := V35.ext E36
    have f38 : Fld Z h36 b36 "com/example/ms2rank/ms2rank/candidate/Unpacker" "packed" "[B" .null := D36 (Or.inr (hw _ (List.mem_of_getElem? (i := 11) rfl))) (ty := (.array .byte)) (by decide)
    have f39 : Fld Z h36 b36 "com/example/ms2rank/ms2rank/candidate/Unpacker" "at" "I" (.int (0 : Int32)) := D36 (Or.inl (hw _ (List.mem_of_getElem? (i := 18) rfl))) (ty := .int) (by decide)
    have Z36 : n0 ≤ h36.size := Nat.le_trans Z34 E36.1
    refine own_st st36 ?_
    show own_Go p e below K (T36.setTop (mkF m 74 #[.val (.int p1), .val (.int p2), .val (.int p3), .val (.int p4), .val (.int (2 : Int32)), .val (.ref b27), .unset, .unset, .unset, .unset, .unset] [(.ref b36)]))
    try clear X34 e34 st36 V35
    refine own_st (fun t k => XS.dup X36.here hx rfl (hb hby at_74) rfl rfl k) ?_
    show own_Go p e below K (T36.setTop (mkF m 75 #[.val (.int p1), .val (.int p2), .val (.int p3), .val (.int p4), .val (.int (2 : Int32)), .val (.ref b27), .unset, .unset, .unset, .unset, .unset] [(.ref b36), (.ref b36)]))
    refine own_st (fun t k => XS.aload X36.here hx rfl (hb hby at_75) rfl rfl k) ?_
    show own_Go p e below K (T36.setTop (mkF m 77 #[.val (.int p1), .val (.int p2), .val (.int p3), .val (.int p4), .val (.int (2 : Int32)), .val (.ref b27), .unset, .unset, .unset, .unset, .unset] [(.ref b27), (.ref b36), (.ref b36)]))
    obtain ⟨_, _, ⟨T40, L40, k40, n40⟩, -, X40, ⟨Lc40, hQ40, l40, y40, z40⟩, st40⟩ := X36.specialBack hx (y := (⟨"com/example/ms2rank/ms2rank/candidate/Unpacker", "<init>", "([B)V"⟩ : MethodName)) rfl hown (mvT hZ (hw _ (List.mem_of_getElem? (i := 4) rfl))) (mvT hZ (hw _ (List.mem_of_getElem? (i := 5) rfl))) (mvT hZ (hw _ (List.mem_of_getElem? (i := 6) rfl))) (by decide) (backOf (W := 1) (rm1 l Z a0 hw [] b36 b27 h36 n0 Z36 g_b36 A36 f38 f39) hZ (hw _ (List.mem_of_getElem? (i := 6) rfl)) (hw _ (List.mem_of_getElem? (i := 3) rfl)) (by decide) (by decide)) (g := (mkF m 77 #[.val (.int p1), .val (.int p2), .val (.int p3), .val (.int p4), .val (.int (2 : Int32)), .val (.ref b27), .unset, .unset, .unset, .unset, .unset] [(.ref b27), (.ref b36), (.ref b36)])) rfl (by rw [hml]; rfl) (Steps.refl _) (a := b36) (argsL := [(.ref b27)]) (rest := [(.ref b36)]) (lenOf pd_0_0 rfl) rfl (by show 2 * 0 + _ ≤ _; exact Nat.le_of_eq rfl) (hb hby at_77) (fun _ _ => ⟨rfl, e36, (by decide : 2 + 0 ≤ _), (by decide : 4 + 0 ≤ _)⟩)
    dsimp only [Pt.U, Pt.locs, Pt.cells, Pt.slots] at X40 l40 y40 z40 st40 hQ40
    obtain ⟨rfl, N40q, Kq40, p40_0, p40_1, p40_2⟩ := hQ40
    have N40 : Fr n0 L40 := by rw [l40]; exact Fr.app N34 N40q
    clear l40
    have y40' : k40 = 2 := y40
    have z40' : n40 = 4 := z40
    clear y40 z40
    subst y40' z40'
    have f41 : Arv Z T40.heap b27 k27 .byte (2 : Int32) (ys.map Value.int) (.int (0 : Int32)) := f37.keep Kq40 (ninS ne_b27_b36 nin0)
    have Z40 : n0 ≤ T40.heap.size := Nat.le_trans Z36 Kq40.1
    refine own_tr st40 ?_
    show own_Go p e below K (T40.setTop (mkF m 80 #[.val (.int p1), .val (.int p2), .val (.int p3), .val (.int p4), .val (.int (2 : Int32)), .val (.ref b27), .unset, .unset, .unset, .unset, .unset] [(.ref b36)]))
    try clear X36 e36 st40 N34 N40q f37
    refine own_st (fun t k => XS.astore X40.here hx rfl (hb hby at_80) rfl rfl (l' := #[.val (.int p1), .val (.int p2), .val (.int p3), .val (.int p4), .val (.int (2 : Int32)), .val (.ref b27), .val (.ref b36), .unset, .unset, .unset, .unset]) rfl k) ?_
    show own_Go p e below K (T40.setTop (mkF m 82 #[.val (.int p1), .val (.int p2), .val (.int p3), .val (.int p4), .val (.int (2 : Int32)), .val (.ref b27), .val (.ref b36), .unset, .unset, .unset, .unset] []))
    refine own_st (fun t k => XS.aload X40.here hx rfl (hb hby at_82) rfl rfl k) ?_
    show own_Go p e below K (T40.setTop (mkF m 84 #[.val (.int p1), .val (.int p2), .val (.int p3), .val (.int p4), .val (.int (2 : Int32)), .val (.ref b27), .val (.ref b36), .unset, .unset, .unset, .unset] [(.ref b36)]))
    obtain ⟨cq42, kq42, qv42a, qv42b, qv42c⟩ := isOf hZ rfl p40_0
    obtain ⟨_, _, ⟨T42, L42, k42, n42⟩, -, X42, ⟨Lc42, hQ42, l42, y42, z42⟩, st42⟩ := X40.virtualBack hx (y := (⟨"com/example/ms2rank/ms2rank/candidate/Unpacker", "atEnd", "()Z"⟩ : MethodName)) (z := (⟨"com/example/ms2rank/ms2rank/candidate/Unpacker", "atEnd", "()Z"⟩ : MethodName)) hown (mvT hZ (hw _ (List.mem_of_getElem? (i := 12) rfl))) (mvT hZ (hw _ (List.mem_of_getElem? (i := 13) rfl))) (notFace_of_selects (args := #[]) (mvT hZ (hw _ (List.mem_of_getElem? (i := 15) rfl)))) (mvT hZ (hw _ (List.mem_of_getElem? (i := 15) rfl))) (mvT hZ (hw _ (List.mem_of_getElem? (i := 14) rfl))) (by decide) (backOf (W := 0) (rm3 l Z a0 hw [] b36 ((0 : Int32)) (b27) (k27) ((2 : Int32)) (ys) T40.heap n0 Z40 p40_2 p40_1 f41) hZ (hw _ (List.mem_of_getElem? (i := 16) rfl)) (hw _ (List.mem_of_getElem? (i := 3) rfl)) (by decide) (by decide)) qv42a qv42c (g := (mkF m 84 #[.val (.int p1), .val (.int p2), .val (.int p3), .val (.int p4), .val (.int (2 : Int32)), .val (.ref b27), .val (.ref b36), .unset, .unset, .unset, .unset] [(.ref b36)])) rfl (by rw [hml]; rfl) (Steps.refl _) (argsL := []) (rest := []) (lenOf pd_0_2 rfl) rfl (by show 2 * 0 + _ ≤ _; exact Nat.le_of_eq rfl) (hb hby at_84) (fun _ _ => ⟨rfl, rfl, (by decide : 2 + 0 ≤ _), (by decide : 4 + 0 ≤ _)⟩)
    dsimp only [Pt.U, Pt.locs, Pt.cells, Pt.slots] at X42 l42 y42 z42 st42 hQ42
    obtain ⟨r42, rfl, hr42, N42q, e42⟩ := hQ42
    have N42 : Fr n0 L42 := by rw [l42]; exact Fr.app N40 N42q
    clear l42
    have y42' : k42 = 2 := y42
    have z42' : n42 = 4 := z42
    clear y42 z42
    subst y42' z42'
    refine own_tr st42 ?_
    show own_Go p e below K (T42.setTop (mkF m 87 #[.val (.int p1), .val (.int p2), .val (.int p3), .val (.int p4), .val (.int (2 : Int32)), .val (.ref b27), .val (.ref b36), .unset, .unset, .unset, .unset] [(.int r42)]))
    try clear X40 st42 N40 N42q
    refine own_st (fun t k => XS.iload X42.here hx rfl (hb hby at_87) rfl k) ?_
    show own_Go p e below K (T42.setTop (mkF m 89 #[.val (.int p1), .val (.int p2), .val (.int p3), .val (.int p4), .val (.int (2 : Int32)), .val (.ref b27), .val (.ref b36), .unset, .unset, .unset, .unset] [(.int (2 : Int32)), (.int r42)]))
    refine own_st (fun t k => XS.ifYes X42.here hx rfl (pc0 := 89) (pc' := 96) rfl (hb hby at_89) rfl ((if0 _ _).trans (feq (by decide : ¬ ((2 : Int32) = (0 : Int32)))).2) (by decide) (by decide) k) ?_
    show own_Go p e below K (T42.setTop (mkF m 96 #[.val (.int p1), .val (.int p2), .val (.int p3), .val (.int p4), .val (.int (2 : Int32)), .val (.ref b27), .val (.ref b36), .unset, .unset, .unset, .unset] [(.int r42)]))
    refine own_st (fun t k => XS.iconst X42.here hx rfl (hb hby at_96) k) ?_
    show own_Go p e below K (T42.setTop (mkF m 97 #[.val (.int p1), .val (.int p2), .val (.int p3), .val (.int p4), .val (.int (2 : Int32)), .val (.ref b27), .val (.ref b36), .unset, .unset, .unset, .unset] [(.int (0 : Int32)), (.int r42)]))
    refine own_st (fun t k => XS.icmpNo X42.here hx rfl (hb hby at_97) rfl (teq (own_B.zero hr42 (by decide) : r42 = (0 : Int32))).2 k) ?_
    show own_Go p e below K (T42.setTop (mkF m 100 #[.val (.int p1), .val (.int p2), .val (.int p3), .val (.int p4), .val (.int (2 : Int32)), .val (.ref b27), .val (.ref b36), .unset, .unset, .unset, .unset] []))
    refine own_st (fun t k => XS.iconst X42.here hx rfl (hb hby at_100) k) ?_
    show own_Go p e below K (T42.setTop (mkF m 101 #[.val (.int p1), .val (.int p2), .val (.int p3), .val (.int p4), .val (.int (2 : Int32)), .val (.ref b27), .val (.ref b36), .unset, .unset, .unset, .unset] [(.int (1 : Int32))]))
    refine own_st (fun t k => XS.goto X42.here hx rfl (pc0 := 101) (pc' := 105) rfl (hb hby at_101) (by decide) (by decide) k) ?_
    show own_Go p e below K (T42.setTop (mkF m 105 #[.val (.int p1), .val (.int p2), .val (.int p3), .val (.int p4), .val (.int (2 : Int32)), .val (.ref b27), .val (.ref b36), .unset, .unset, .unset, .unset] [(.int (1 : Int32))]))
    refine own_st (fun t k => XS.istore X42.here hx rfl (hb hby at_105) rfl (l' := #[.val (.int p1), .val (.int p2), .val (.int p3), .val (.int p4), .val (.int (2 : Int32)), .val (.ref b27), .val (.ref b36), .val (.int (1 : Int32)), .unset, .unset, .unset]) rfl k) ?_
    show own_Go p e below K (T42.setTop (mkF m 107 #[.val (.int p1), .val (.int p2), .val (.int p3), .val (.int p4), .val (.int (2 : Int32)), .val (.ref b27), .val (.ref b36), .val (.int (1 : Int32)), .unset, .unset, .unset] []))
    refine own_st (fun t k => XS.iload X42.here hx rfl (hb hby at_107) rfl k) ?_
    show own_Go p e below K (T42.setTop (mkF m 109 #[.val (.int p1), .val (.int p2), .val (.int p3), .val (.int p4), .val (.int (2 : Int32)), .val (.ref b27), .val (.ref b36), .val (.int (1 : Int32)), .unset, .unset, .unset] [(.int (2 : Int32))]))
    refine own_st (fun t k => XS.ifYes X42.here hx rfl (pc0 := 109) (pc' := 115) rfl (hb hby at_109) rfl ((if0 _ _).trans (feq (by decide : ¬ ((2 : Int32) = (0 : Int32)))).2) (by decide) (by decide) k) ?_
    show own_Go p e below K (T42.setTop (mkF m 115 #[.val (.int p1), .val (.int p2), .val (.int p3), .val (.int p4), .val (.int (2 : Int32)), .val (.ref b27), .val (.ref b36), .val (.int (1 : Int32)), .unset, .unset, .unset] []))
    refine own_st (fun t k => XS.aload X42.here hx rfl (hb hby at_115) rfl rfl k) ?_
    show own_Go p e below K (T42.setTop (mkF m 117 #[.val (.int p1), .val (.int p2), .val (.int p3), .val (.int p4), .val (.int (2 : Int32)), .val (.ref b27), .val (.ref b36), .val (.int (1 : Int32)), .unset, .unset, .unset] [(.ref b27)]))
    refine own_st (fun t k => XS.iconst X42.here hx rfl (hb hby at_117) k) ?_
    show own_Go p e below K (T42.setTop (mkF m 118 #[.val (.int p1), .val (.int p2), .val (.int p3), .val (.int p4), .val (.int (2 : Int32)), .val (.ref b27), .val (.ref b36), .val (.int (1 : Int32)), .unset, .unset, .unset] [(.int (0 : Int32)), (.ref b27)]))
    obtain ⟨_, _, ⟨T43, L43, k43, n43⟩, -, X43, ⟨Lc43, hQ43, l43, y43, z43⟩, st43⟩ := Jvm.LawKit.callS X42 hx (y := (⟨"com/example/ms2rank/ms2rank/candidate/UnpackerAtEndPinLaw", "next", "([BI)I"⟩ : MethodName)) hown (mvT hZ (hw _ (List.mem_of_getElem? (i := 19) rfl))) (mvT hZ (hw _ (List.mem_of_getElem? (i := 20) rfl))) (mvT hZ (hw _ (List.mem_of_getElem? (i := 21) rfl))) (mvT hZ (hw _ (List.mem_of_getElem? (i := 22) rfl))) (by decide) (backOf (W := 0) (rm4 l Z a0 hw [] b27 (0 : Int32) (k27) ((2 : Int32)) (ys) T40.heap n0 Z40 f41 (by decide)) hZ (hw _ (List.mem_of_getElem? (i := 22) rfl)) (hw _ (List.mem_of_getElem? (i := 21) rfl)) (by decide) (by decide)) (g := (mkF m 118 #[.val (.int p1), .val (.int p2), .val (.int p3), .val (.int p4), .val (.int (2 : Int32)), .val (.ref b27), .val (.ref b36), .val (.int (1 : Int32)), .unset, .unset, .unset] [(.int (0 : Int32)), (.ref b27)])) rfl (by rw [hml]; rfl) (argsL := [(.ref b27), (.int (0 : Int32))]) (rest := []) (lenOf pd_0_3 rfl) rfl (by show 2 * 0 + _ ≤ _; exact Nat.le_of_eq rfl) (hb hby at_118) (fun _ _ => ⟨rfl, e42, (by decide : 2 + 0 ≤ _), (by decide : 4 + 0 ≤ _)⟩)
    dsimp only [Pt.U, Pt.locs, Pt.cells, Pt.slots] at X43 l43 y43 z43 st43 hQ43
    obtain ⟨r43, rfl, hr43, N43q, e43⟩ := hQ43
    have N43 : Fr n0 L43 := by rw [l43]; exact Fr.app N42 N43q
    clear l43
    have y43' : k43 = 2 := y43
    have z43' : n43 = 4 := z43
    clear y43 z43
    subst y43' z43'
    refine own_st st43 ?_
    show own_Go p e below K (T43.setTop (mkF m 121 #[.val (.int p1), .val (.int p2), .val (.int p3), .val (.int p4), .val (.int (2 : Int32)), .val (.ref b27), .val (.ref b36), .val (.int (1 : Int32)), .unset, .unset, .unset] [(.int r43)]))
    try clear X42 e42 st43 N42 N43q
    rcases own_N0 hr43 with ⟨rfl, hA⟩ | ⟨rfl, hB, hA⟩ | ⟨rfl, hB, hB'⟩
    · show own_Go p e below K (T43.setTop (mkF m 121 #[.val (.int p1), .val (.int p2), .val (.int p3), .val (.int p4), .val (.int (2 : Int32)), .val (.ref b27), .val (.ref b36), .val (.int (1 : Int32)), .unset, .unset, .unset] [(.int (1 : Int32))]))
      refine own_st (fun t k => XS.istore X43.here hx rfl (hb hby at_121) rfl (l' := #[.val (.int p1), .val (.int p2), .val (.int p3), .val (.int p4), .val (.int (2 : Int32)), .val (.ref b27), .val (.ref b36), .val (.int (1 : Int32)), .val (.int (1 : Int32)), .unset, .unset]) rfl k) ?_
      show own_Go p e below K (T43.setTop (mkF m 123 #[.val (.int p1), .val (.int p2), .val (.int p3), .val (.int p4), .val (.int (2 : Int32)), .val (.ref b27), .val (.ref b36), .val (.int (1 : Int32)), .val (.int (1 : Int32)), .unset, .unset] []))
      refine own_st (fun t k => XS.aload X43.here hx rfl (hb hby at_123) rfl rfl k) ?_
      show own_Go p e below K (T43.setTop (mkF m 125 #[.val (.int p1), .val (.int p2), .val (.int p3), .val (.int p4), .val (.int (2 : Int32)), .val (.ref b27), .val (.ref b36), .val (.int (1 : Int32)), .val (.int (1 : Int32)), .unset, .unset] [(.ref b36)]))
      obtain ⟨cq44, kq44, qv44a, qv44b, qv44c⟩ := isOf hZ e43 p40_0
      obtain ⟨_, _, ⟨T44, L44, k44, n44⟩, -, X44, ⟨Lc44, hQ44, l44, y44, z44⟩, st44⟩ := X43.virtualBack hx (y := (⟨"com/example/ms2rank/ms2rank/candidate/Unpacker", "number", "()I"⟩ : MethodName)) (z := (⟨"com/example/ms2rank/ms2rank/candidate/Unpacker", "number", "()I"⟩ : MethodName)) hown (mvT hZ (hw _ (List.mem_of_getElem? (i := 23) rfl))) (mvT hZ (hw _ (List.mem_of_getElem? (i := 24) rfl))) (notFace_of_selects (args := #[]) (mvT hZ (hw _ (List.mem_of_getElem? (i := 26) rfl)))) (mvT hZ (hw _ (List.mem_of_getElem? (i := 26) rfl))) (mvT hZ (hw _ (List.mem_of_getElem? (i := 25) rfl))) (by decide) (backOf (W := 0) (rm5 l Z a0 hw [] b36 ((0 : Int32)) (b27) (k27) ((2 : Int32)) (ys) (0) (0) T40.heap n0 Z40 g_b36 (Ne.symm ne_b27_b36) p40_0 p40_2 p40_1 f41 (by decide) (by decide) (by decide) (own_ng0 0) hA.2) hZ (hw _ (List.mem_of_getElem? (i := 27) rfl)) (hw _ (List.mem_of_getElem? (i := 3) rfl)) (by decide) (by decide)) qv44a qv44c (g := (mkF m 125 #[.val (.int p1), .val (.int p2), .val (.int p3), .val (.int p4), .val (.int (2 : Int32)), .val (.ref b27), .val (.ref b36), .val (.int (1 : Int32)), .val (.int (1 : Int32)), .unset, .unset] [(.ref b36)])) rfl (by rw [hml]; rfl) (Steps.refl _) (argsL := []) (rest := []) (lenOf pd_0_4 rfl) rfl (by show 2 * 0 + _ ≤ _; exact Nat.le_of_eq rfl) (hb hby at_125) (fun _ _ => ⟨rfl, e43, (by decide : 2 + 0 ≤ _), (by decide : 4 + 0 ≤ _)⟩)
      dsimp only [Pt.U, Pt.locs, Pt.cells, Pt.slots] at X44 l44 y44 z44 st44 hQ44
      obtain ⟨r44, xq_44, rfl, hr44, N44q, Kq44, p44_0, p44_1, p44_2, pp44_0⟩ := hQ44
      have N44 : Fr n0 L44 := by rw [l44]; exact Fr.app N43 N44q
      clear l44
      have y44' : k44 = 2 := y44
      have z44' : n44 = 4 := z44
      clear y44 z44
      subst y44' z44'
      have f45 : Arv Z T44.heap b27 k27 .byte (2 : Int32) (ys.map Value.int) (.int (0 : Int32)) := f41.keep Kq44 (ninS ne_b27_b36 nin0)
      have Z44 : n0 ≤ T44.heap.size := Nat.le_trans Z40 Kq44.1
      refine own_tr st44 ?_
      show own_Go p e below K (T44.setTop (mkF m 128 #[.val (.int p1), .val (.int p2), .val (.int p3), .val (.int p4), .val (.int (2 : Int32)), .val (.ref b27), .val (.ref b36), .val (.int (1 : Int32)), .val (.int (1 : Int32)), .unset, .unset] [(.int r44)]))
      try clear X43 e43 st44 N43 N44q f41
      obtain rfl := (Int32.toInt_inj.mp (pp44_0 : xq_44.toInt = ((0 + 1 : Nat) : Int)) : xq_44 = (1 : Int32))
      show own_Go p e below K (T44.setTop (mkF m 128 #[.val (.int p1), .val (.int p2), .val (.int p3), .val (.int p4), .val (.int (2 : Int32)), .val (.ref b27), .val (.ref b36), .val (.int (1 : Int32)), .val (.int (1 : Int32)), .unset, .unset] [(.int r44)]))
      refine own_st (fun t k => XS.pop X44.here hx rfl (hb hby at_128) rfl rfl k) ?_
      show own_Go p e below K (T44.setTop (mkF m 129 #[.val (.int p1), .val (.int p2), .val (.int p3), .val (.int p4), .val (.int (2 : Int32)), .val (.ref b27), .val (.ref b36), .val (.int (1 : Int32)), .val (.int (1 : Int32)), .unset, .unset] []))
      refine own_st (fun t k => XS.iload X44.here hx rfl (hb hby at_129) rfl k) ?_
      show own_Go p e below K (T44.setTop (mkF m 131 #[.val (.int p1), .val (.int p2), .val (.int p3), .val (.int p4), .val (.int (2 : Int32)), .val (.ref b27), .val (.ref b36), .val (.int (1 : Int32)), .val (.int (1 : Int32)), .unset, .unset] [(.int (1 : Int32))]))
      refine own_st (fun t k => XS.ifNo X44.here hx rfl (hb hby at_131) rfl ((if0 _ _).trans (feq (by decide : ¬ ((1 : Int32) = (0 : Int32)))).1) k) ?_
      show own_Go p e below K (T44.setTop (mkF m 134 #[.val (.int p1), .val (.int p2), .val (.int p3), .val (.int p4), .val (.int (2 : Int32)), .val (.ref b27), .val (.ref b36), .val (.int (1 : Int32)), .val (.int (1 : Int32)), .unset, .unset] []))
      refine own_st (fun t k => XS.aload X44.here hx rfl (hb hby at_134) rfl rfl k) ?_
      show own_Go p e below K (T44.setTop (mkF m 136 #[.val (.int p1), .val (.int p2), .val (.int p3), .val (.int p4), .val (.int (2 : Int32)), .val (.ref b27), .val (.ref b36), .val (.int (1 : Int32)), .val (.int (1 : Int32)), .unset, .unset] [(.ref b36)]))
      obtain ⟨cq46, kq46, qv46a, qv46b, qv46c⟩ := isOf hZ rfl p44_0
      obtain ⟨_, _, ⟨T46, L46, k46, n46⟩, -, X46, ⟨Lc46, hQ46, l46, y46, z46⟩, st46⟩ := X44.virtualBack hx (y := (⟨"com/example/ms2rank/ms2rank/candidate/Unpacker", "atEnd", "()Z"⟩ : MethodName)) (z := (⟨"com/example/ms2rank/ms2rank/candidate/Unpacker", "atEnd", "()Z"⟩ : MethodName)) hown (mvT hZ (hw _ (List.mem_of_getElem? (i := 12) rfl))) (mvT hZ (hw _ (List.mem_of_getElem? (i := 13) rfl))) (notFace_of_selects (args := #[]) (mvT hZ (hw _ (List.mem_of_getElem? (i := 15) rfl)))) (mvT hZ (hw _ (List.mem_of_getElem? (i := 15) rfl))) (mvT hZ (hw _ (List.mem_of_getElem? (i := 14) rfl))) (by decide) (backOf (W := 0) (rm3 l Z a0 hw [] b36 ((1 : Int32)) (b27) (k27) ((2 : Int32)) (ys) T44.heap n0 Z44 p44_2 p44_1 f45) hZ (hw _ (List.mem_of_getElem? (i := 16) rfl)) (hw _ (List.mem_of_getElem? (i := 3) rfl)) (by decide) (by decide)) qv46a qv46c (g := (mkF m 136 #[.val (.int p1), .val (.int p2), .val (.int p3), .val (.int p4), .val (.int (2 : Int32)), .val (.ref b27), .val (.ref b36), .val (.int (1 : Int32)), .val (.int (1 : Int32)), .unset, .unset] [(.ref b36)])) rfl (by rw [hml]; rfl) (Steps.refl _) (argsL := []) (rest := []) (lenOf pd_0_2 rfl) rfl (by show 2 * 0 + _ ≤ _; exact Nat.le_of_eq rfl) (hb hby at_136) (fun _ _ => ⟨rfl, rfl, (by decide : 2 + 0 ≤ _), (by decide : 4 + 0 ≤ _)⟩)
      dsimp only [Pt.U, Pt.locs, Pt.cells, Pt.slots] at X46 l46 y46 z46 st46 hQ46
      obtain ⟨r46, rfl, hr46, N46q, e46⟩ := hQ46
      have N46 : Fr n0 L46 := by rw [l46]; exact Fr.app N44 N46q
      clear l46
      have y46' : k46 = 2 := y46
      have z46' : n46 = 4 := z46
      clear y46 z46
      subst y46' z46'
      refine own_tr st46 ?_
      show own_Go p e below K (T46.setTop (mkF m 139 #[.val (.int p1), .val (.int p2), .val (.int p3), .val (.int p4), .val (.int (2 : Int32)), .val (.ref b27), .val (.ref b36), .val (.int (1 : Int32)), .val (.int (1 : Int32)), .unset, .unset] [(.int r46)]))
      try clear X44 st46 N44 N46q
      refine own_st (fun t k => XS.iload X46.here hx rfl (hb hby at_139) rfl k) ?_
      show own_Go p e below K (T46.setTop (mkF m 141 #[.val (.int p1), .val (.int p2), .val (.int p3), .val (.int p4), .val (.int (2 : Int32)), .val (.ref b27), .val (.ref b36), .val (.int (1 : Int32)), .val (.int (1 : Int32)), .unset, .unset] [(.int (1 : Int32)), (.int r46)]))
      refine own_st (fun t k => XS.iload X46.here hx rfl (hb hby at_141) rfl k) ?_
      show own_Go p e below K (T46.setTop (mkF m 143 #[.val (.int p1), .val (.int p2), .val (.int p3), .val (.int p4), .val (.int (2 : Int32)), .val (.ref b27), .val (.ref b36), .val (.int (1 : Int32)), .val (.int (1 : Int32)), .unset, .unset] [(.int (2 : Int32)), (.int (1 : Int32)), (.int r46)]))
      refine own_st (fun t k => XS.icmpYes X46.here hx rfl (pc0 := 143) (pc' := 150) rfl (hb hby at_143) rfl (feq (by decide : ¬ ((1 : Int32) = (2 : Int32)))).2 (by decide) (by decide) k) ?_
      show own_Go p e below K (T46.setTop (mkF m 150 #[.val (.int p1), .val (.int p2), .val (.int p3), .val (.int p4), .val (.int (2 : Int32)), .val (.ref b27), .val (.ref b36), .val (.int (1 : Int32)), .val (.int (1 : Int32)), .unset, .unset] [(.int r46)]))
      refine own_st (fun t k => XS.iconst X46.here hx rfl (hb hby at_150) k) ?_
      show own_Go p e below K (T46.setTop (mkF m 151 #[.val (.int p1), .val (.int p2), .val (.int p3), .val (.int p4), .val (.int (2 : Int32)), .val (.ref b27), .val (.ref b36), .val (.int (1 : Int32)), .val (.int (1 : Int32)), .unset, .unset] [(.int (0 : Int32)), (.int r46)]))
      refine own_st (fun t k => XS.icmpNo X46.here hx rfl (hb hby at_151) rfl (teq (own_B.zero hr46 (by decide) : r46 = (0 : Int32))).2 k) ?_
      show own_Go p e below K (T46.setTop (mkF m 154 #[.val (.int p1), .val (.int p2), .val (.int p3), .val (.int p4), .val (.int (2 : Int32)), .val (.ref b27), .val (.ref b36), .val (.int (1 : Int32)), .val (.int (1 : Int32)), .unset, .unset] []))
      refine own_st (fun t k => XS.iconst X46.here hx rfl (hb hby at_154) k) ?_
      show own_Go p e below K (T46.setTop (mkF m 155 #[.val (.int p1), .val (.int p2), .val (.int p3), .val (.int p4), .val (.int (2 : Int32)), .val (.ref b27), .val (.ref b36), .val (.int (1 : Int32)), .val (.int (1 : Int32)), .unset, .unset] [(.int (1 : Int32))]))
      refine own_st (fun t k => XS.goto X46.here hx rfl (pc0 := 155) (pc' := 159) rfl (hb hby at_155) (by decide) (by decide) k) ?_
      show own_Go p e below K (T46.setTop (mkF m 159 #[.val (.int p1), .val (.int p2), .val (.int p3), .val (.int p4), .val (.int (2 : Int32)), .val (.ref b27), .val (.ref b36), .val (.int (1 : Int32)), .val (.int (1 : Int32)), .unset, .unset] [(.int (1 : Int32))]))
      refine own_st (fun t k => XS.istore X46.here hx rfl (hb hby at_159) rfl (l' := #[.val (.int p1), .val (.int p2), .val (.int p3), .val (.int p4), .val (.int (2 : Int32)), .val (.ref b27), .val (.ref b36), .val (.int (1 : Int32)), .val (.int (1 : Int32)), .unset, .unset]) rfl k) ?_
      show own_Go p e below K (T46.setTop (mkF m 161 #[.val (.int p1), .val (.int p2), .val (.int p3), .val (.int p4), .val (.int (2 : Int32)), .val (.ref b27), .val (.ref b36), .val (.int (1 : Int32)), .val (.int (1 : Int32)), .unset, .unset] []))
      refine own_st (fun t k => XS.iload X46.here hx rfl (hb hby at_161) rfl k) ?_
      show own_Go p e below K (T46.setTop (mkF m 163 #[.val (.int p1), .val (.int p2), .val (.int p3), .val (.int p4), .val (.int (2 : Int32)), .val (.ref b27), .val (.ref b36), .val (.int (1 : Int32)), .val (.int (1 : Int32)), .unset, .unset] [(.int (1 : Int32))]))
      refine own_st (fun t k => XS.iload X46.here hx rfl (hb hby at_163) rfl k) ?_
      show own_Go p e below K (T46.setTop (mkF m 165 #[.val (.int p1), .val (.int p2), .val (.int p3), .val (.int p4), .val (.int (2 : Int32)), .val (.ref b27), .val (.ref b36), .val (.int (1 : Int32)), .val (.int (1 : Int32)), .unset, .unset] [(.int (2 : Int32)), (.int (1 : Int32))]))
      refine own_st (fun t k => XS.icmpNo X46.here hx rfl (hb hby at_165) rfl (tlt (by decide : (1 : Int32) < (2 : Int32))).2.1 k) ?_
      show own_Go p e below K (T46.setTop (mkF m 168 #[.val (.int p1), .val (.int p2), .val (.int p3), .val (.int p4), .val (.int (2 : Int32)), .val (.ref b27), .val (.ref b36), .val (.int (1 : Int32)), .val (.int (1 : Int32)), .unset, .unset] []))
      refine own_st (fun t k => XS.aload X46.here hx rfl (hb hby at_168) rfl rfl k) ?_
      show own_Go p e below K (T46.setTop (mkF m 170 #[.val (.int p1), .val (.int p2), .val (.int p3), .val (.int p4), .val (.int (2 : Int32)), .val (.ref b27), .val (.ref b36), .val (.int (1 : Int32)), .val (.int (1 : Int32)), .unset, .unset] [(.ref b27)]))
      refine own_st (fun t k => XS.iload X46.here hx rfl (hb hby at_170) rfl k) ?_
      show own_Go p e below K (T46.setTop (mkF m 172 #[.val (.int p1), .val (.int p2), .val (.int p3), .val (.int p4), .val (.int (2 : Int32)), .val (.ref b27), .val (.ref b36), .val (.int (1 : Int32)), .val (.int (1 : Int32)), .unset, .unset] [(.int (1 : Int32)), (.ref b27)]))
      obtain ⟨_, _, ⟨T47, L47, k47, n47⟩, -, X47, ⟨Lc47, hQ47, l47, y47, z47⟩, st47⟩ := Jvm.LawKit.callS X46 hx (y := (⟨"com/example/ms2rank/ms2rank/candidate/UnpackerAtEndPinLaw", "next", "([BI)I"⟩ : MethodName)) hown (mvT hZ (hw _ (List.mem_of_getElem? (i := 19) rfl))) (mvT hZ (hw _ (List.mem_of_getElem? (i := 20) rfl))) (mvT hZ (hw _ (List.mem_of_getElem? (i := 21) rfl))) (mvT hZ (hw _ (List.mem_of_getElem? (i := 22) rfl))) (by decide) (backOf (W := 0) (rm4 l Z a0 hw [] b27 (1 : Int32) (k27) ((2 : Int32)) (ys) T44.heap n0 Z44 f45 (by decide)) hZ (hw _ (List.mem_of_getElem? (i := 22) rfl)) (hw _ (List.mem_of_getElem? (i := 21) rfl)) (by decide) (by decide)) (g := (mkF m 172 #[.val (.int p1), .val (.int p2), .val (.int p3), .val (.int p4), .val (.int (2 : Int32)), .val (.ref b27), .val (.ref b36), .val (.int (1 : Int32)), .val (.int (1 : Int32)), .unset, .unset] [(.int (1 : Int32)), (.ref b27)])) rfl (by rw [hml]; rfl) (argsL := [(.ref b27), (.int (1 : Int32))]) (rest := []) (lenOf pd_0_3 rfl) rfl (by show 2 * 0 + _ ≤ _; exact Nat.le_of_eq rfl) (hb hby at_172) (fun _ _ => ⟨rfl, e46, (by decide : 2 + 0 ≤ _), (by decide : 4 + 0 ≤ _)⟩)
      dsimp only [Pt.U, Pt.locs, Pt.cells, Pt.slots] at X47 l47 y47 z47 st47 hQ47
      obtain ⟨r47, rfl, hr47, N47q, e47⟩ := hQ47
      have N47 : Fr n0 L47 := by rw [l47]; exact Fr.app N46 N47q
      clear l47
      have y47' : k47 = 2 := y47
      have z47' : n47 = 4 := z47
      clear y47 z47
      subst y47' z47'
      refine own_st st47 ?_
      show own_Go p e below K (T47.setTop (mkF m 175 #[.val (.int p1), .val (.int p2), .val (.int p3), .val (.int p4), .val (.int (2 : Int32)), .val (.ref b27), .val (.ref b36), .val (.int (1 : Int32)), .val (.int (1 : Int32)), .unset, .unset] [(.int r47)]))
      try clear X46 e46 st47 N46 N47q
      rcases own_N1 hr47 with ⟨rfl, hA⟩ | ⟨rfl, hB, hA⟩ | ⟨rfl, hB, hB'⟩
      · show own_Go p e below K (T47.setTop (mkF m 175 #[.val (.int p1), .val (.int p2), .val (.int p3), .val (.int p4), .val (.int (2 : Int32)), .val (.ref b27), .val (.ref b36), .val (.int (1 : Int32)), .val (.int (1 : Int32)), .unset, .unset] [(.int (2 : Int32))]))
        refine own_st (fun t k => XS.istore X47.here hx rfl (hb hby at_175) rfl (l' := #[.val (.int p1), .val (.int p2), .val (.int p3), .val (.int p4), .val (.int (2 : Int32)), .val (.ref b27), .val (.ref b36), .val (.int (1 : Int32)), .val (.int (1 : Int32)), .val (.int (2 : Int32)), .unset]) rfl k) ?_
        show own_Go p e below K (T47.setTop (mkF m 177 #[.val (.int p1), .val (.int p2), .val (.int p3), .val (.int p4), .val (.int (2 : Int32)), .val (.ref b27), .val (.ref b36), .val (.int (1 : Int32)), .val (.int (1 : Int32)), .val (.int (2 : Int32)), .unset] []))
        refine own_st (fun t k => XS.aload X47.here hx rfl (hb hby at_177) rfl rfl k) ?_
        show own_Go p e below K (T47.setTop (mkF m 179 #[.val (.int p1), .val (.int p2), .val (.int p3), .val (.int p4), .val (.int (2 : Int32)), .val (.ref b27), .val (.ref b36), .val (.int (1 : Int32)), .val (.int (1 : Int32)), .val (.int (2 : Int32)), .unset] [(.ref b36)]))
        obtain ⟨cq48, kq48, qv48a, qv48b, qv48c⟩ := isOf hZ e47 p44_0
        obtain ⟨_, _, ⟨T48, L48, k48, n48⟩, -, X48, ⟨Lc48, hQ48, l48, y48, z48⟩, st48⟩ := X47.virtualBack hx (y := (⟨"com/example/ms2rank/ms2rank/candidate/Unpacker", "number", "()I"⟩ : MethodName)) (z := (⟨"com/example/ms2rank/ms2rank/candidate/Unpacker", "number", "()I"⟩ : MethodName)) hown (mvT hZ (hw _ (List.mem_of_getElem? (i := 23) rfl))) (mvT hZ (hw _ (List.mem_of_getElem? (i := 24) rfl))) (notFace_of_selects (args := #[]) (mvT hZ (hw _ (List.mem_of_getElem? (i := 26) rfl)))) (mvT hZ (hw _ (List.mem_of_getElem? (i := 26) rfl))) (mvT hZ (hw _ (List.mem_of_getElem? (i := 25) rfl))) (by decide) (backOf (W := 0) (rm5 l Z a0 hw [] b36 ((1 : Int32)) (b27) (k27) ((2 : Int32)) (ys) (1) (1) T44.heap n0 Z44 g_b36 (Ne.symm ne_b27_b36) p44_0 p44_2 p44_1 f45 (by decide) (by decide) (by decide) (own_ng0 1) yl) hZ (hw _ (List.mem_of_getElem? (i := 27) rfl)) (hw _ (List.mem_of_getElem? (i := 3) rfl)) (by decide) (by decide)) qv48a qv48c (g := (mkF m 179 #[.val (.int p1), .val (.int p2), .val (.int p3), .val (.int p4), .val (.int (2 : Int32)), .val (.ref b27), .val (.ref b36), .val (.int (1 : Int32)), .val (.int (1 : Int32)), .val (.int (2 : Int32)), .unset] [(.ref b36)])) rfl (by rw [hml]; rfl) (Steps.refl _) (argsL := []) (rest := []) (lenOf pd_0_4 rfl) rfl (by show 2 * 0 + _ ≤ _; exact Nat.le_of_eq rfl) (hb hby at_179) (fun _ _ => ⟨rfl, e47, (by decide : 2 + 0 ≤ _), (by decide : 4 + 0 ≤ _)⟩)
        dsimp only [Pt.U, Pt.locs, Pt.cells, Pt.slots] at X48 l48 y48 z48 st48 hQ48
        obtain ⟨r48, xq_48, rfl, hr48, N48q, Kq48, p48_0, p48_1, p48_2, pp48_0⟩ := hQ48
        have N48 : Fr n0 L48 := by rw [l48]; exact Fr.app N47 N48q
        clear l48
        have y48' : k48 = 2 := y48
        have z48' : n48 = 4 := z48
        clear y48 z48
        subst y48' z48'
        have f49 : Arv Z T48.heap b27 k27 .byte (2 : Int32) (ys.map Value.int) (.int (0 : Int32)) := f45.keep Kq48 (ninS ne_b27_b36 nin0)
        have Z48 : n0 ≤ T48.heap.size := Nat.le_trans Z44 Kq48.1
        refine own_tr st48 ?_
        show own_Go p e below K (T48.setTop (mkF m 182 #[.val (.int p1), .val (.int p2), .val (.int p3), .val (.int p4), .val (.int (2 : Int32)), .val (.ref b27), .val (.ref b36), .val (.int (1 : Int32)), .val (.int (1 : Int32)), .val (.int (2 : Int32)), .unset] [(.int r48)]))
        try clear X47 e47 st48 N47 N48q f45
        obtain rfl := (Int32.toInt_inj.mp (pp48_0 : xq_48.toInt = ((1 + 1 : Nat) : Int)) : xq_48 = (2 : Int32))
        show own_Go p e below K (T48.setTop (mkF m 182 #[.val (.int p1), .val (.int p2), .val (.int p3), .val (.int p4), .val (.int (2 : Int32)), .val (.ref b27), .val (.ref b36), .val (.int (1 : Int32)), .val (.int (1 : Int32)), .val (.int (2 : Int32)), .unset] [(.int r48)]))
        refine own_st (fun t k => XS.pop X48.here hx rfl (hb hby at_182) rfl rfl k) ?_
        show own_Go p e below K (T48.setTop (mkF m 183 #[.val (.int p1), .val (.int p2), .val (.int p3), .val (.int p4), .val (.int (2 : Int32)), .val (.ref b27), .val (.ref b36), .val (.int (1 : Int32)), .val (.int (1 : Int32)), .val (.int (2 : Int32)), .unset] []))
        refine own_st (fun t k => XS.iload X48.here hx rfl (hb hby at_183) rfl k) ?_
        show own_Go p e below K (T48.setTop (mkF m 185 #[.val (.int p1), .val (.int p2), .val (.int p3), .val (.int p4), .val (.int (2 : Int32)), .val (.ref b27), .val (.ref b36), .val (.int (1 : Int32)), .val (.int (1 : Int32)), .val (.int (2 : Int32)), .unset] [(.int (1 : Int32))]))
        refine own_st (fun t k => XS.ifNo X48.here hx rfl (hb hby at_185) rfl ((if0 _ _).trans (feq (by decide : ¬ ((1 : Int32) = (0 : Int32)))).1) k) ?_
        show own_Go p e below K (T48.setTop (mkF m 188 #[.val (.int p1), .val (.int p2), .val (.int p3), .val (.int p4), .val (.int (2 : Int32)), .val (.ref b27), .val (.ref b36), .val (.int (1 : Int32)), .val (.int (1 : Int32)), .val (.int (2 : Int32)), .unset] []))
        refine own_st (fun t k => XS.aload X48.here hx rfl (hb hby at_188) rfl rfl k) ?_
        show own_Go p e below K (T48.setTop (mkF m 190 #[.val (.int p1), .val (.int p2), .val (.int p3), .val (.int p4), .val (.int (2 : Int32)), .val (.ref b27), .val (.ref b36), .val (.int (1 : Int32)), .val (.int (1 : Int32)), .val (.int (2 : Int32)), .unset] [(.ref b36)]))
        obtain ⟨cq50, kq50, qv50a, qv50b, qv50c⟩ := isOf hZ rfl p48_0
        obtain ⟨_, _, ⟨T50, L50, k50, n50⟩, -, X50, ⟨Lc50, hQ50, l50, y50, z50⟩, st50⟩ := X48.virtualBack hx (y := (⟨"com/example/ms2rank/ms2rank/candidate/Unpacker", "atEnd", "()Z"⟩ : MethodName)) (z := (⟨"com/example/ms2rank/ms2rank/candidate/Unpacker", "atEnd", "()Z"⟩ : MethodName)) hown (mvT hZ (hw _ (List.mem_of_getElem? (i := 12) rfl))) (mvT hZ (hw _ (List.mem_of_getElem? (i := 13) rfl))) (notFace_of_selects (args := #[]) (mvT hZ (hw _ (List.mem_of_getElem? (i := 15) rfl)))) (mvT hZ (hw _ (List.mem_of_getElem? (i := 15) rfl))) (mvT hZ (hw _ (List.mem_of_getElem? (i := 14) rfl))) (by decide) (backOf (W := 0) (rm3 l Z a0 hw [] b36 ((2 : Int32)) (b27) (k27) ((2 : Int32)) (ys) T48.heap n0 Z48 p48_2 p48_1 f49) hZ (hw _ (List.mem_of_getElem? (i := 16) rfl)) (hw _ (List.mem_of_getElem? (i := 3) rfl)) (by decide) (by decide)) qv50a qv50c (g := (mkF m 190 #[.val (.int p1), .val (.int p2), .val (.int p3), .val (.int p4), .val (.int (2 : Int32)), .val (.ref b27), .val (.ref b36), .val (.int (1 : Int32)), .val (.int (1 : Int32)), .val (.int (2 : Int32)), .unset] [(.ref b36)])) rfl (by rw [hml]; rfl) (Steps.refl _) (argsL := []) (rest := []) (lenOf pd_0_2 rfl) rfl (by show 2 * 0 + _ ≤ _; exact Nat.le_of_eq rfl) (hb hby at_190) (fun _ _ => ⟨rfl, rfl, (by decide : 2 + 0 ≤ _), (by decide : 4 + 0 ≤ _)⟩)
        dsimp only [Pt.U, Pt.locs, Pt.cells, Pt.slots] at X50 l50 y50 z50 st50 hQ50
        obtain ⟨r50, rfl, hr50, N50q, e50⟩ := hQ50
        have N50 : Fr n0 L50 := by rw [l50]; exact Fr.app N48 N50q
        clear l50
        have y50' : k50 = 2 := y50
        have z50' : n50 = 4 := z50
        clear y50 z50
        subst y50' z50'
        refine own_tr st50 ?_
        show own_Go p e below K (T50.setTop (mkF m 193 #[.val (.int p1), .val (.int p2), .val (.int p3), .val (.int p4), .val (.int (2 : Int32)), .val (.ref b27), .val (.ref b36), .val (.int (1 : Int32)), .val (.int (1 : Int32)), .val (.int (2 : Int32)), .unset] [(.int r50)]))
        try clear X48 st50 N48 N50q
        refine own_st (fun t k => XS.iload X50.here hx rfl (hb hby at_193) rfl k) ?_
        show own_Go p e below K (T50.setTop (mkF m 195 #[.val (.int p1), .val (.int p2), .val (.int p3), .val (.int p4), .val (.int (2 : Int32)), .val (.ref b27), .val (.ref b36), .val (.int (1 : Int32)), .val (.int (1 : Int32)), .val (.int (2 : Int32)), .unset] [(.int (2 : Int32)), (.int r50)]))
        refine own_st (fun t k => XS.iload X50.here hx rfl (hb hby at_195) rfl k) ?_
        show own_Go p e below K (T50.setTop (mkF m 197 #[.val (.int p1), .val (.int p2), .val (.int p3), .val (.int p4), .val (.int (2 : Int32)), .val (.ref b27), .val (.ref b36), .val (.int (1 : Int32)), .val (.int (1 : Int32)), .val (.int (2 : Int32)), .unset] [(.int (2 : Int32)), (.int (2 : Int32)), (.int r50)]))
        refine own_st (fun t k => XS.icmpNo X50.here hx rfl (hb hby at_197) rfl (teq (by decide : (2 : Int32) = (2 : Int32))).2 k) ?_
        show own_Go p e below K (T50.setTop (mkF m 200 #[.val (.int p1), .val (.int p2), .val (.int p3), .val (.int p4), .val (.int (2 : Int32)), .val (.ref b27), .val (.ref b36), .val (.int (1 : Int32)), .val (.int (1 : Int32)), .val (.int (2 : Int32)), .unset] [(.int r50)]))
        refine own_st (fun t k => XS.iconst X50.here hx rfl (hb hby at_200) k) ?_
        show own_Go p e below K (T50.setTop (mkF m 201 #[.val (.int p1), .val (.int p2), .val (.int p3), .val (.int p4), .val (.int (2 : Int32)), .val (.ref b27), .val (.ref b36), .val (.int (1 : Int32)), .val (.int (1 : Int32)), .val (.int (2 : Int32)), .unset] [(.int (1 : Int32)), (.int r50)]))
        refine own_st (fun t k => XS.goto X50.here hx rfl (pc0 := 201) (pc' := 205) rfl (hb hby at_201) (by decide) (by decide) k) ?_
        show own_Go p e below K (T50.setTop (mkF m 205 #[.val (.int p1), .val (.int p2), .val (.int p3), .val (.int p4), .val (.int (2 : Int32)), .val (.ref b27), .val (.ref b36), .val (.int (1 : Int32)), .val (.int (1 : Int32)), .val (.int (2 : Int32)), .unset] [(.int (1 : Int32)), (.int r50)]))
        refine own_st (fun t k => XS.icmpNo X50.here hx rfl (hb hby at_205) rfl (teq (own_B.one hr50 (by decide) : r50 = (1 : Int32))).2 k) ?_
        show own_Go p e below K (T50.setTop (mkF m 208 #[.val (.int p1), .val (.int p2), .val (.int p3), .val (.int p4), .val (.int (2 : Int32)), .val (.ref b27), .val (.ref b36), .val (.int (1 : Int32)), .val (.int (1 : Int32)), .val (.int (2 : Int32)), .unset] []))
        refine own_st (fun t k => XS.iconst X50.here hx rfl (hb hby at_208) k) ?_
        show own_Go p e below K (T50.setTop (mkF m 209 #[.val (.int p1), .val (.int p2), .val (.int p3), .val (.int p4), .val (.int (2 : Int32)), .val (.ref b27), .val (.ref b36), .val (.int (1 : Int32)), .val (.int (1 : Int32)), .val (.int (2 : Int32)), .unset] [(.int (1 : Int32))]))
        refine own_st (fun t k => XS.goto X50.here hx rfl (pc0 := 209) (pc' := 213) rfl (hb hby at_209) (by decide) (by decide) k) ?_
        show own_Go p e below K (T50.setTop (mkF m 213 #[.val (.int p1), .val (.int p2), .val (.int p3), .val (.int p4), .val (.int (2 : Int32)), .val (.ref b27), .val (.ref b36), .val (.int (1 : Int32)), .val (.int (1 : Int32)), .val (.int (2 : Int32)), .unset] [(.int (1 : Int32))]))
        refine own_st (fun t k => XS.istore X50.here hx rfl (hb hby at_213) rfl (l' := #[.val (.int p1), .val (.int p2), .val (.int p3), .val (.int p4), .val (.int (2 : Int32)), .val (.ref b27), .val (.ref b36), .val (.int (1 : Int32)), .val (.int (1 : Int32)), .val (.int (2 : Int32)), .unset]) rfl k) ?_
        show own_Go p e below K (T50.setTop (mkF m 215 #[.val (.int p1), .val (.int p2), .val (.int p3), .val (.int p4), .val (.int (2 : Int32)), .val (.ref b27), .val (.ref b36), .val (.int (1 : Int32)), .val (.int (1 : Int32)), .val (.int (2 : Int32)), .unset] []))
        refine own_st (fun t k => XS.iload X50.here hx rfl (hb hby at_215) rfl k) ?_
        show own_Go p e below K (T50.setTop (mkF m 217 #[.val (.int p1), .val (.int p2), .val (.int p3), .val (.int p4), .val (.int (2 : Int32)), .val (.ref b27), .val (.ref b36), .val (.int (1 : Int32)), .val (.int (1 : Int32)), .val (.int (2 : Int32)), .unset] [(.int (2 : Int32))]))
        refine own_st (fun t k => XS.iload X50.here hx rfl (hb hby at_217) rfl k) ?_
        show own_Go p e below K (T50.setTop (mkF m 219 #[.val (.int p1), .val (.int p2), .val (.int p3), .val (.int p4), .val (.int (2 : Int32)), .val (.ref b27), .val (.ref b36), .val (.int (1 : Int32)), .val (.int (1 : Int32)), .val (.int (2 : Int32)), .unset] [(.int (2 : Int32)), (.int (2 : Int32))]))
        refine own_st (fun t k => XS.icmpYes X50.here hx rfl (pc0 := 219) (pc' := 269) rfl (hb hby at_219) rfl (flt (by decide : ¬ ((2 : Int32) < (2 : Int32)))).2.1 (by decide) (by decide) k) ?_
        show own_Go p e below K (T50.setTop (mkF m 269 #[.val (.int p1), .val (.int p2), .val (.int p3), .val (.int p4), .val (.int (2 : Int32)), .val (.ref b27), .val (.ref b36), .val (.int (1 : Int32)), .val (.int (1 : Int32)), .val (.int (2 : Int32)), .unset] []))
        refine own_st (fun t k => XS.iload X50.here hx rfl (hb hby at_269) rfl k) ?_
        show own_Go p e below K (T50.setTop (mkF m 271 #[.val (.int p1), .val (.int p2), .val (.int p3), .val (.int p4), .val (.int (2 : Int32)), .val (.ref b27), .val (.ref b36), .val (.int (1 : Int32)), .val (.int (1 : Int32)), .val (.int (2 : Int32)), .unset] [(.int (1 : Int32))]))
        obtain ⟨fs, hr, hrun, hended, hW, hsame⟩ := X50.leave (v := some (.int (nar .boolean (1 : Int32)))) (fun h => by rw [Bd.returns] at h; cases h)
        refine ⟨_, retN X50 hx (t := .boolean) Bd.returns (by simp) (hb hby at_271) hr, fin _ _ _ hrun hended ?_ ⟨⟨_, rfl⟩, hW, hsame.mono (by decide) (by decide)⟩⟩
        show Q0 Z p1 p2 p3 p4 h0 n0 _ T50.heap _
        rw [e50]
        exact ⟨rfl, N50⟩
      · exact absurd hA.1 (by decide)
      exact absurd ⟨by decide, yl⟩ hB
    · show own_Go p e below K (T43.setTop (mkF m 121 #[.val (.int p1), .val (.int p2), .val (.int p3), .val (.int p4), .val (.int (2 : Int32)), .val (.ref b27), .val (.ref b36), .val (.int (1 : Int32)), .unset, .unset, .unset] [(.int (2 : Int32))]))
      refine own_st (fun t k => XS.istore X43.here hx rfl (hb hby at_121) rfl (l' := #[.val (.int p1), .val (.int p2), .val (.int p3), .val (.int p4), .val (.int (2 : Int32)), .val (.ref b27), .val (.ref b36), .val (.int (1 : Int32)), .val (.int (2 : Int32)), .unset, .unset]) rfl k) ?_
      show own_Go p e below K (T43.setTop (mkF m 123 #[.val (.int p1), .val (.int p2), .val (.int p3), .val (.int p4), .val (.int (2 : Int32)), .val (.ref b27), .val (.ref b36), .val (.int (1 : Int32)), .val (.int (2 : Int32)), .unset, .unset] []))
      refine own_st (fun t k => XS.aload X43.here hx rfl (hb hby at_123) rfl rfl k) ?_
      show own_Go p e below K (T43.setTop (mkF m 125 #[.val (.int p1), .val (.int p2), .val (.int p3), .val (.int p4), .val (.int (2 : Int32)), .val (.ref b27), .val (.ref b36), .val (.int (1 : Int32)), .val (.int (2 : Int32)), .unset, .unset] [(.ref b36)]))
      obtain ⟨cq51, kq51, qv51a, qv51b, qv51c⟩ := isOf hZ e43 p40_0
      obtain ⟨_, _, ⟨T51, L51, k51, n51⟩, -, X51, ⟨Lc51, hQ51, l51, y51, z51⟩, st51⟩ := X43.virtualBack hx (y := (⟨"com/example/ms2rank/ms2rank/candidate/Unpacker", "number", "()I"⟩ : MethodName)) (z := (⟨"com/example/ms2rank/ms2rank/candidate/Unpacker", "number", "()I"⟩ : MethodName)) hown (mvT hZ (hw _ (List.mem_of_getElem? (i := 23) rfl))) (mvT hZ (hw _ (List.mem_of_getElem? (i := 24) rfl))) (notFace_of_selects (args := #[]) (mvT hZ (hw _ (List.mem_of_getElem? (i := 26) rfl)))) (mvT hZ (hw _ (List.mem_of_getElem? (i := 26) rfl))) (mvT hZ (hw _ (List.mem_of_getElem? (i := 25) rfl))) (by decide) (backOf (W := 0) (rm5 l Z a0 hw [] b36 ((0 : Int32)) (b27) (k27) ((2 : Int32)) (ys) (0) (1) T40.heap n0 Z40 g_b36 (Ne.symm ne_b27_b36) p40_0 p40_2 p40_1 f41 (by decide) (by decide) (by decide) (own_ng1 0 (own_neg0 hB (by decide))) yl) hZ (hw _ (List.mem_of_getElem? (i := 27) rfl)) (hw _ (List.mem_of_getElem? (i := 3) rfl)) (by decide) (by decide)) qv51a qv51c (g := (mkF m 125 #[.val (.int p1), .val (.int p2), .val (.int p3), .val (.int p4), .val (.int (2 : Int32)), .val (.ref b27), .val (.ref b36), .val (.int (1 : Int32)), .val (.int (2 : Int32)), .unset, .unset] [(.ref b36)])) rfl (by rw [hml]; rfl) (Steps.refl _) (argsL := []) (rest := []) (lenOf pd_0_4 rfl) rfl (by show 2 * 0 + _ ≤ _; exact Nat.le_of_eq rfl) (hb hby at_125) (fun _ _ => ⟨rfl, e43, (by decide : 2 + 0 ≤ _), (by decide : 4 + 0 ≤ _)⟩)
      dsimp only [Pt.U, Pt.locs, Pt.cells, Pt.slots] at X51 l51 y51 z51 st51 hQ51
      obtain ⟨r51, xq_51, rfl, hr51, N51q, Kq51, p51_0, p51_1, p51_2, pp51_0⟩ := hQ51
      have N51 : Fr n0 L51 := by rw [l51]; exact Fr.app N43 N51q
      clear l51
      have y51' : k51 = 2 := y51
      have z51' : n51 = 4 := z51
      clear y51 z51
      subst y51' z51'
      have f52 : Arv Z T51.heap b27 k27 .byte (2 : Int32) (ys.map Value.int) (.int (0 : Int32)) := f41.keep Kq51 (ninS ne_b27_b36 nin0)
      have Z51 : n0 ≤ T51.heap.size := Nat.le_trans Z40 Kq51.1
      refine own_tr st51 ?_
      show own_Go p e below K (T51.setTop (mkF m 128 #[.val (.int p1), .val (.int p2), .val (.int p3), .val (.int p4), .val (.int (2 : Int32)), .val (.ref b27), .val (.ref b36), .val (.int (1 : Int32)), .val (.int (2 : Int32)), .unset, .unset] [(.int r51)]))
      try clear X43 e43 st51 N43 N51q f41
      obtain rfl := (Int32.toInt_inj.mp (pp51_0 : xq_51.toInt = ((1 + 1 : Nat) : Int)) : xq_51 = (2 : Int32))
      show own_Go p e below K (T51.setTop (mkF m 128 #[.val (.int p1), .val (.int p2), .val (.int p3), .val (.int p4), .val (.int (2 : Int32)), .val (.ref b27), .val (.ref b36), .val (.int (1 : Int32)), .val (.int (2 : Int32)), .unset, .unset] [(.int r51)]))
      refine own_st (fun t k => XS.pop X51.here hx rfl (hb hby at_128) rfl rfl k) ?_
      show own_Go p e below K (T51.setTop (mkF m 129 #[.val (.int p1), .val (.int p2), .val (.int p3), .val (.int p4), .val (.int (2 : Int32)), .val (.ref b27), .val (.ref b36), .val (.int (1 : Int32)), .val (.int (2 : Int32)), .unset, .unset] []))
      refine own_st (fun t k => XS.iload X51.here hx rfl (hb hby at_129) rfl k) ?_
      show own_Go p e below K (T51.setTop (mkF m 131 #[.val (.int p1), .val (.int p2), .val (.int p3), .val (.int p4), .val (.int (2 : Int32)), .val (.ref b27), .val (.ref b36), .val (.int (1 : Int32)), .val (.int (2 : Int32)), .unset, .unset] [(.int (1 : Int32))]))
      refine own_st (fun t k => XS.ifNo X51.here hx rfl (hb hby at_131) rfl ((if0 _ _).trans (feq (by decide : ¬ ((1 : Int32) = (0 : Int32)))).1) k) ?_
      show own_Go p e below K (T51.setTop (mkF m 134 #[.val (.int p1), .val (.int p2), .val (.int p3), .val (.int p4), .val (.int (2 : Int32)), .val (.ref b27), .val (.ref b36), .val (.int (1 : Int32)), .val (.int (2 : Int32)), .unset, .unset] []))
      refine own_st (fun t k => XS.aload X51.here hx rfl (hb hby at_134) rfl rfl k) ?_
      show own_Go p e below K (T51.setTop (mkF m 136 #[.val (.int p1), .val (.int p2), .val (.int p3), .val (.int p4), .val (.int (2 : Int32)), .val (.ref b27), .val (.ref b36), .val (.int (1 : Int32)), .val (.int (2 : Int32)), .unset, .unset] [(.ref b36)]))
      obtain ⟨cq53, kq53, qv53a, qv53b, qv53c⟩ := isOf hZ rfl p51_0
      obtain ⟨_, _, ⟨T53, L53, k53, n53⟩, -, X53, ⟨Lc53, hQ53, l53, y53, z53⟩, st53⟩ := X51.virtualBack hx (y := (⟨"com/example/ms2rank/ms2rank/candidate/Unpacker", "atEnd", "()Z"⟩ : MethodName)) (z := (⟨"com/example/ms2rank/ms2rank/candidate/Unpacker", "atEnd", "()Z"⟩ : MethodName)) hown (mvT hZ (hw _ (List.mem_of_getElem? (i := 12) rfl))) (mvT hZ (hw _ (List.mem_of_getElem? (i := 13) rfl))) (notFace_of_selects (args := #[]) (mvT hZ (hw _ (List.mem_of_getElem? (i := 15) rfl)))) (mvT hZ (hw _ (List.mem_of_getElem? (i := 15) rfl))) (mvT hZ (hw _ (List.mem_of_getElem? (i := 14) rfl))) (by decide) (backOf (W := 0) (rm3 l Z a0 hw [] b36 ((2 : Int32)) (b27) (k27) ((2 : Int32)) (ys) T51.heap n0 Z51 p51_2 p51_1 f52) hZ (hw _ (List.mem_of_getElem? (i := 16) rfl)) (hw _ (List.mem_of_getElem? (i := 3) rfl)) (by decide) (by decide)) qv53a qv53c (g := (mkF m 136 #[.val (.int p1), .val (.int p2), .val (.int p3), .val (.int p4), .val (.int (2 : Int32)), .val (.ref b27), .val (.ref b36), .val (.int (1 : Int32)), .val (.int (2 : Int32)), .unset, .unset] [(.ref b36)])) rfl (by rw [hml]; rfl) (Steps.refl _) (argsL := []) (rest := []) (lenOf pd_0_2 rfl) rfl (by show 2 * 0 + _ ≤ _; exact Nat.le_of_eq rfl) (hb hby at_136) (fun _ _ => ⟨rfl, rfl, (by decide : 2 + 0 ≤ _), (by decide : 4 + 0 ≤ _)⟩)
      dsimp only [Pt.U, Pt.locs, Pt.cells, Pt.slots] at X53 l53 y53 z53 st53 hQ53
      obtain ⟨r53, rfl, hr53, N53q, e53⟩ := hQ53
      have N53 : Fr n0 L53 := by rw [l53]; exact Fr.app N51 N53q
      clear l53
      have y53' : k53 = 2 := y53
      have z53' : n53 = 4 := z53
      clear y53 z53
      subst y53' z53'
      refine own_tr st53 ?_
      show own_Go p e below K (T53.setTop (mkF m 139 #[.val (.int p1), .val (.int p2), .val (.int p3), .val (.int p4), .val (.int (2 : Int32)), .val (.ref b27), .val (.ref b36), .val (.int (1 : Int32)), .val (.int (2 : Int32)), .unset, .unset] [(.int r53)]))
      try clear X51 st53 N51 N53q
      refine own_st (fun t k => XS.iload X53.here hx rfl (hb hby at_139) rfl k) ?_
      show own_Go p e below K (T53.setTop (mkF m 141 #[.val (.int p1), .val (.int p2), .val (.int p3), .val (.int p4), .val (.int (2 : Int32)), .val (.ref b27), .val (.ref b36), .val (.int (1 : Int32)), .val (.int (2 : Int32)), .unset, .unset] [(.int (2 : Int32)), (.int r53)]))
      refine own_st (fun t k => XS.iload X53.here hx rfl (hb hby at_141) rfl k) ?_
      show own_Go p e below K (T53.setTop (mkF m 143 #[.val (.int p1), .val (.int p2), .val (.int p3), .val (.int p4), .val (.int (2 : Int32)), .val (.ref b27), .val (.ref b36), .val (.int (1 : Int32)), .val (.int (2 : Int32)), .unset, .unset] [(.int (2 : Int32)), (.int (2 : Int32)), (.int r53)]))
      refine own_st (fun t k => XS.icmpNo X53.here hx rfl (hb hby at_143) rfl (teq (by decide : (2 : Int32) = (2 : Int32))).2 k) ?_
      show own_Go p e below K (T53.setTop (mkF m 146 #[.val (.int p1), .val (.int p2), .val (.int p3), .val (.int p4), .val (.int (2 : Int32)), .val (.ref b27), .val (.ref b36), .val (.int (1 : Int32)), .val (.int (2 : Int32)), .unset, .unset] [(.int r53)]))
      refine own_st (fun t k => XS.iconst X53.here hx rfl (hb hby at_146) k) ?_
      show own_Go p e below K (T53.setTop (mkF m 147 #[.val (.int p1), .val (.int p2), .val (.int p3), .val (.int p4), .val (.int (2 : Int32)), .val (.ref b27), .val (.ref b36), .val (.int (1 : Int32)), .val (.int (2 : Int32)), .unset, .unset] [(.int (1 : Int32)), (.int r53)]))
      refine own_st (fun t k => XS.goto X53.here hx rfl (pc0 := 147) (pc' := 151) rfl (hb hby at_147) (by decide) (by decide) k) ?_
      show own_Go p e below K (T53.setTop (mkF m 151 #[.val (.int p1), .val (.int p2), .val (.int p3), .val (.int p4), .val (.int (2 : Int32)), .val (.ref b27), .val (.ref b36), .val (.int (1 : Int32)), .val (.int (2 : Int32)), .unset, .unset] [(.int (1 : Int32)), (.int r53)]))
      refine own_st (fun t k => XS.icmpNo X53.here hx rfl (hb hby at_151) rfl (teq (own_B.one hr53 (by decide) : r53 = (1 : Int32))).2 k) ?_
      show own_Go p e below K (T53.setTop (mkF m 154 #[.val (.int p1), .val (.int p2), .val (.int p3), .val (.int p4), .val (.int (2 : Int32)), .val (.ref b27), .val (.ref b36), .val (.int (1 : Int32)), .val (.int (2 : Int32)), .unset, .unset] []))
      refine own_st (fun t k => XS.iconst X53.here hx rfl (hb hby at_154) k) ?_
      show own_Go p e below K (T53.setTop (mkF m 155 #[.val (.int p1), .val (.int p2), .val (.int p3), .val (.int p4), .val (.int (2 : Int32)), .val (.ref b27), .val (.ref b36), .val (.int (1 : Int32)), .val (.int (2 : Int32)), .unset, .unset] [(.int (1 : Int32))]))
      refine own_st (fun t k => XS.goto X53.here hx rfl (pc0 := 155) (pc' := 159) rfl (hb hby at_155) (by decide) (by decide) k) ?_
      show own_Go p e below K (T53.setTop (mkF m 159 #[.val (.int p1), .val (.int p2), .val (.int p3), .val (.int p4), .val (.int (2 : Int32)), .val (.ref b27), .val (.ref b36), .val (.int (1 : Int32)), .val (.int (2 : Int32)), .unset, .unset] [(.int (1 : Int32))]))
      refine own_st (fun t k => XS.istore X53.here hx rfl (hb hby at_159) rfl (l' := #[.val (.int p1), .val (.int p2), .val (.int p3), .val (.int p4), .val (.int (2 : Int32)), .val (.ref b27), .val (.ref b36), .val (.int (1 : Int32)), .val (.int (2 : Int32)), .unset, .unset]) rfl k) ?_
      show own_Go p e below K (T53.setTop (mkF m 161 #[.val (.int p1), .val (.int p2), .val (.int p3), .val (.int p4), .val (.int (2 : Int32)), .val (.ref b27), .val (.ref b36), .val (.int (1 : Int32)), .val (.int (2 : Int32)), .unset, .unset] []))
      refine own_st (fun t k => XS.iload X53.here hx rfl (hb hby at_161) rfl k) ?_
      show own_Go p e below K (T53.setTop (mkF m 163 #[.val (.int p1), .val (.int p2), .val (.int p3), .val (.int p4), .val (.int (2 : Int32)), .val (.ref b27), .val (.ref b36), .val (.int (1 : Int32)), .val (.int (2 : Int32)), .unset, .unset] [(.int (2 : Int32))]))
      refine own_st (fun t k => XS.iload X53.here hx rfl (hb hby at_163) rfl k) ?_
      show own_Go p e below K (T53.setTop (mkF m 165 #[.val (.int p1), .val (.int p2), .val (.int p3), .val (.int p4), .val (.int (2 : Int32)), .val (.ref b27), .val (.ref b36), .val (.int (1 : Int32)), .val (.int (2 : Int32)), .unset, .unset] [(.int (2 : Int32)), (.int (2 : Int32))]))
      refine own_st (fun t k => XS.icmpYes X53.here hx rfl (pc0 := 165) (pc' := 269) rfl (hb hby at_165) rfl (flt (by decide : ¬ ((2 : Int32) < (2 : Int32)))).2.1 (by decide) (by decide) k) ?_
      show own_Go p e below K (T53.setTop (mkF m 269 #[.val (.int p1), .val (.int p2), .val (.int p3), .val (.int p4), .val (.int (2 : Int32)), .val (.ref b27), .val (.ref b36), .val (.int (1 : Int32)), .val (.int (2 : Int32)), .unset, .unset] []))
      refine own_st (fun t k => XS.iload X53.here hx rfl (hb hby at_269) rfl k) ?_
      show own_Go p e below K (T53.setTop (mkF m 271 #[.val (.int p1), .val (.int p2), .val (.int p3), .val (.int p4), .val (.int (2 : Int32)), .val (.ref b27), .val (.ref b36), .val (.int (1 : Int32)), .val (.int (2 : Int32)), .unset, .unset] [(.int (1 : Int32))]))
      obtain ⟨fs, hr, hrun, hended, hW, hsame⟩ := X53.leave (v := some (.int (nar .boolean (1 : Int32)))) (fun h => by rw [Bd.returns] at h; cases h)
      refine ⟨_, retN X53 hx (t := .boolean) Bd.returns (by simp) (hb hby at_271) hr, fin _ _ _ hrun hended ?_ ⟨⟨_, rfl⟩, hW, hsame.mono (by decide) (by decide)⟩⟩
      show Q0 Z p1 p2 p3 p4 h0 n0 _ T53.heap _
      rw [e53]
      exact ⟨rfl, N53⟩
    exact absurd ⟨by decide, yl⟩ hB'
  subst hs
  show own_Go p e below K (s₁.setTop (mkF m 3 #[.val (.int p1), .val (.int p2), .val (.int p3), .val (.int p4), .unset, .unset, .unset, .unset, .unset, .unset, .unset] [(.int (3 : Int32))]))
  refine own_st (fun t k => XS.istore X0.here hx rfl (hb hby at_3) rfl (l' := #[.val (.int p1), .val (.int p2), .val (.int p3), .val (.int p4), .val (.int (3 : Int32)), .unset, .unset, .unset, .unset, .unset, .unset]) rfl k) ?_
  show own_Go p e below K (s₁.setTop (mkF m 5 #[.val (.int p1), .val (.int p2), .val (.int p3), .val (.int p4), .val (.int (3 : Int32)), .unset, .unset, .unset, .unset, .unset, .unset] []))
  refine own_st (fun t k => XS.iload X0.here hx rfl (hb hby at_5) rfl k) ?_
  show own_Go p e below K (s₁.setTop (mkF m 7 #[.val (.int p1), .val (.int p2), .val (.int p3), .val (.int p4), .val (.int (3 : Int32)), .unset, .unset, .unset, .unset, .unset, .unset] [(.int (3 : Int32))]))
  obtain ⟨T54, h54, k54, X54, e54, E54, A54, st54⟩ := newP X0 hx hZ (hw _ (List.mem_of_getElem? (i := 0) rfl)) e0 (g := (mkF m 7 #[.val (.int p1), .val (.int p2), .val (.int p3), .val (.int p4), .val (.int (3 : Int32)), .unset, .unset, .unset, .unset, .unset, .unset] [(.int (3 : Int32))])) rfl (hb hby at_7) rfl (by decide) (cap := 3) (by decide) (by decide) (by decide) (by decide)
  obtain ⟨b54, g54⟩ : ∃ z, z = h0.size := ⟨_, rfl⟩
  rw [← g54] at A54 st54
  have g_b54 : n0 ≤ b54 := Nat.le_trans Z0 (Nat.le_of_eq g54.symm)
  have V54 : Arv Z h54 b54 k54 .byte (3 : Int32) [(.int (0 : Int32)), (.int (0 : Int32)), (.int (0 : Int32))] (.int (0 : Int32)) := (Arv.new A54 (by decide)).pad (pad_rep [] (.int (0 : Int32)) 3)
  have Z54 : n0 ≤ h54.size := Nat.le_trans Z0 E54.1
  refine own_st st54 ?_
  show own_Go p e below K (T54.setTop (mkF m 9 #[.val (.int p1), .val (.int p2), .val (.int p3), .val (.int p4), .val (.int (3 : Int32)), .unset, .unset, .unset, .unset, .unset, .unset] [(.ref b54)]))
  try clear st54
  refine own_st (fun t k => XS.astore X54.here hx rfl (hb hby at_9) rfl rfl (l' := #[.val (.int p1), .val (.int p2), .val (.int p3), .val (.int p4), .val (.int (3 : Int32)), .val (.ref b54), .unset, .unset, .unset, .unset, .unset]) rfl k) ?_
  show own_Go p e below K (T54.setTop (mkF m 11 #[.val (.int p1), .val (.int p2), .val (.int p3), .val (.int p4), .val (.int (3 : Int32)), .val (.ref b54), .unset, .unset, .unset, .unset, .unset] []))
  refine own_st (fun t k => XS.iload X54.here hx rfl (hb hby at_11) rfl k) ?_
  show own_Go p e below K (T54.setTop (mkF m 13 #[.val (.int p1), .val (.int p2), .val (.int p3), .val (.int p4), .val (.int (3 : Int32)), .val (.ref b54), .unset, .unset, .unset, .unset, .unset] [(.int (3 : Int32))]))
  refine own_st (fun t k => XS.iconst X54.here hx rfl (hb hby at_13) k) ?_
  show own_Go p e below K (T54.setTop (mkF m 14 #[.val (.int p1), .val (.int p2), .val (.int p3), .val (.int p4), .val (.int (3 : Int32)), .val (.ref b54), .unset, .unset, .unset, .unset, .unset] [(.int (1 : Int32)), (.int (3 : Int32))]))
  refine own_st (fun t k => XS.icmpNo X54.here hx rfl (hb hby at_14) rfl (flt (by decide : ¬ ((3 : Int32) < (1 : Int32)))).1 k) ?_
  show own_Go p e below K (T54.setTop (mkF m 17 #[.val (.int p1), .val (.int p2), .val (.int p3), .val (.int p4), .val (.int (3 : Int32)), .val (.ref b54), .unset, .unset, .unset, .unset, .unset] []))
  refine own_st (fun t k => XS.aload X54.here hx rfl (hb hby at_17) rfl rfl k) ?_
  show own_Go p e below K (T54.setTop (mkF m 19 #[.val (.int p1), .val (.int p2), .val (.int p3), .val (.int p4), .val (.int (3 : Int32)), .val (.ref b54), .unset, .unset, .unset, .unset, .unset] [(.ref b54)]))
  refine own_st (fun t k => XS.iconst X54.here hx rfl (hb hby at_19) k) ?_
  show own_Go p e below K (T54.setTop (mkF m 20 #[.val (.int p1), .val (.int p2), .val (.int p3), .val (.int p4), .val (.int (3 : Int32)), .val (.ref b54), .unset, .unset, .unset, .unset, .unset] [(.int (0 : Int32)), (.ref b54)]))
  refine own_st (fun t k => XS.iloadN X54.here hx rfl (hb hby at_20) rfl k) ?_
  show own_Go p e below K (T54.setTop (mkF m 21 #[.val (.int p1), .val (.int p2), .val (.int p3), .val (.int p4), .val (.int (3 : Int32)), .val (.ref b54), .unset, .unset, .unset, .unset, .unset] [(.int p2), (.int (0 : Int32)), (.ref b54)]))
  refine own_st (fun t k => XS.i2b X54.here hx rfl (hb hby at_21) rfl k) ?_
  show own_Go p e below K (T54.setTop (mkF m 22 #[.val (.int p1), .val (.int p2), .val (.int p3), .val (.int p4), .val (.int (3 : Int32)), .val (.ref b54), .unset, .unset, .unset, .unset, .unset] [(.int (p2.toInt8.toInt32)), (.int (0 : Int32)), (.ref b54)]))
  obtain ⟨cl55, Ar55, qa55, Sa55, Ma55, Ha55, Ga55⟩ := id V54
  have hin55 : ¬ ((0 : Int32) < 0 ∨ cl55.slots.size ≤ ((0 : Int32)).toNatClampNeg) := inb_of Sa55 ⟨by decide, by decide⟩
  obtain ⟨T56, h56, X56, e56, W56, st56⟩ := stB X54 hx hZ e54 Ar55 (j := (0 : Int32)) hin55 (g := (mkF m 22 #[.val (.int p1), .val (.int p2), .val (.int p3), .val (.int p4), .val (.int (3 : Int32)), .val (.ref b54), .unset, .unset, .unset, .unset, .unset] [(.int (p2.toInt8.toInt32)), (.int (0 : Int32)), (.ref b54)])) rfl rfl (hb hby at_22)
  have id56 : nar .byte (p2.toInt8.toInt32) = (p2.toInt8.toInt32) := (own_nb _)
  rw [id56] at W56
  have V56 : Arv Z h56 b54 k54 .byte (3 : Int32) [(.int (p2.toInt8.toInt32)), (.int (0 : Int32)), (.int (0 : Int32))] (.int (0 : Int32)) := Arv.set Ar55 qa55 Sa55 Ma55 Ha55 Ga55 (own_fit id56) W56 0 rfl (Nat.le_of_ble_eq_true rfl)
  have N56 := Fr.snoc X56 N0 g_b54
  have Z56 : n0 ≤ h56.size := Nat.le_trans Z54 (Keep.of_wr W56).1
  refine own_st st56 ?_
  show own_Go p e below K (T56.setTop (mkF m 23 #[.val (.int p1), .val (.int p2), .val (.int p3), .val (.int p4), .val (.int (3 : Int32)), .val (.ref b54), .unset, .unset, .unset, .unset, .unset] []))
  try clear X54 e54 st56
  refine own_st (fun t k => XS.iload X56.here hx rfl (hb hby at_23) rfl k) ?_
  show own_Go p e below K (T56.setTop (mkF m 25 #[.val (.int p1), .val (.int p2), .val (.int p3), .val (.int p4), .val (.int (3 : Int32)), .val (.ref b54), .unset, .unset, .unset, .unset, .unset] [(.int (3 : Int32))]))
  refine own_st (fun t k => XS.iconst X56.here hx rfl (hb hby at_25) k) ?_
  show own_Go p e below K (T56.setTop (mkF m 26 #[.val (.int p1), .val (.int p2), .val (.int p3), .val (.int p4), .val (.int (3 : Int32)), .val (.ref b54), .unset, .unset, .unset, .unset, .unset] [(.int (2 : Int32)), (.int (3 : Int32))]))
  refine own_st (fun t k => XS.icmpNo X56.here hx rfl (hb hby at_26) rfl (flt (by decide : ¬ ((3 : Int32) < (2 : Int32)))).1 k) ?_
  show own_Go p e below K (T56.setTop (mkF m 29 #[.val (.int p1), .val (.int p2), .val (.int p3), .val (.int p4), .val (.int (3 : Int32)), .val (.ref b54), .unset, .unset, .unset, .unset, .unset] []))
  refine own_st (fun t k => XS.aload X56.here hx rfl (hb hby at_29) rfl rfl k) ?_
  show own_Go p e below K (T56.setTop (mkF m 31 #[.val (.int p1), .val (.int p2), .val (.int p3), .val (.int p4), .val (.int (3 : Int32)), .val (.ref b54), .unset, .unset, .unset, .unset, .unset] [(.ref b54)]))
  refine own_st (fun t k => XS.iconst X56.here hx rfl (hb hby at_31) k) ?_
  show own_Go p e below K (T56.setTop (mkF m 32 #[.val (.int p1), .val (.int p2), .val (.int p3), .val (.int p4), .val (.int (3 : Int32)), .val (.ref b54), .unset, .unset, .unset, .unset, .unset] [(.int (1 : Int32)), (.ref b54)]))
  refine own_st (fun t k => XS.iloadN X56.here hx rfl (hb hby at_32) rfl k) ?_
  show own_Go p e below K (T56.setTop (mkF m 33 #[.val (.int p1), .val (.int p2), .val (.int p3), .val (.int p4), .val (.int (3 : Int32)), .val (.ref b54), .unset, .unset, .unset, .unset, .unset] [(.int p3), (.int (1 : Int32)), (.ref b54)]))
  refine own_st (fun t k => XS.i2b X56.here hx rfl (hb hby at_33) rfl k) ?_
  show own_Go p e below K (T56.setTop (mkF m 34 #[.val (.int p1), .val (.int p2), .val (.int p3), .val (.int p4), .val (.int (3 : Int32)), .val (.ref b54), .unset, .unset, .unset, .unset, .unset] [(.int (p3.toInt8.toInt32)), (.int (1 : Int32)), (.ref b54)]))
  obtain ⟨cl57, Ar57, qa57, Sa57, Ma57, Ha57, Ga57⟩ := id V56
  have hin57 : ¬ ((1 : Int32) < 0 ∨ cl57.slots.size ≤ ((1 : Int32)).toNatClampNeg) := inb_of Sa57 ⟨by decide, by decide⟩
  obtain ⟨T58, h58, X58, e58, W58, st58⟩ := stB X56 hx hZ e56 Ar57 (j := (1 : Int32)) hin57 (g := (mkF m 34 #[.val (.int p1), .val (.int p2), .val (.int p3), .val (.int p4), .val (.int (3 : Int32)), .val (.ref b54), .unset, .unset, .unset, .unset, .unset] [(.int (p3.toInt8.toInt32)), (.int (1 : Int32)), (.ref b54)])) rfl rfl (hb hby at_34)
  have id58 : nar .byte (p3.toInt8.toInt32) = (p3.toInt8.toInt32) := (own_nb _)
  rw [id58] at W58
  have V58 : Arv Z h58 b54 k54 .byte (3 : Int32) [(.int (p2.toInt8.toInt32)), (.int (p3.toInt8.toInt32)), (.int (0 : Int32))] (.int (0 : Int32)) := Arv.set Ar57 qa57 Sa57 Ma57 Ha57 Ga57 (own_fit id58) W58 1 rfl (Nat.le_of_ble_eq_true rfl)
  have N58 := Fr.snoc X58 N56 g_b54
  have Z58 : n0 ≤ h58.size := Nat.le_trans Z56 (Keep.of_wr W58).1
  refine own_st st58 ?_
  show own_Go p e below K (T58.setTop (mkF m 35 #[.val (.int p1), .val (.int p2), .val (.int p3), .val (.int p4), .val (.int (3 : Int32)), .val (.ref b54), .unset, .unset, .unset, .unset, .unset] []))
  try clear X56 e56 st58
  refine own_st (fun t k => XS.iload X58.here hx rfl (hb hby at_35) rfl k) ?_
  show own_Go p e below K (T58.setTop (mkF m 37 #[.val (.int p1), .val (.int p2), .val (.int p3), .val (.int p4), .val (.int (3 : Int32)), .val (.ref b54), .unset, .unset, .unset, .unset, .unset] [(.int (3 : Int32))]))
  refine own_st (fun t k => XS.iconst X58.here hx rfl (hb hby at_37) k) ?_
  show own_Go p e below K (T58.setTop (mkF m 38 #[.val (.int p1), .val (.int p2), .val (.int p3), .val (.int p4), .val (.int (3 : Int32)), .val (.ref b54), .unset, .unset, .unset, .unset, .unset] [(.int (3 : Int32)), (.int (3 : Int32))]))
  refine own_st (fun t k => XS.icmpNo X58.here hx rfl (hb hby at_38) rfl (flt (by decide : ¬ ((3 : Int32) < (3 : Int32)))).1 k) ?_
  show own_Go p e below K (T58.setTop (mkF m 41 #[.val (.int p1), .val (.int p2), .val (.int p3), .val (.int p4), .val (.int (3 : Int32)), .val (.ref b54), .unset, .unset, .unset, .unset, .unset] []))
  refine own_st (fun t k => XS.aload X58.here hx rfl (hb hby at_41) rfl rfl k) ?_
  show own_Go p e below K (T58.setTop (mkF m 43 #[.val (.int p1), .val (.int p2), .val (.int p3), .val (.int p4), .val (.int (3 : Int32)), .val (.ref b54), .unset, .unset, .unset, .unset, .unset] [(.ref b54)]))
  refine own_st (fun t k => XS.iconst X58.here hx rfl (hb hby at_43) k) ?_
  show own_Go p e below K (T58.setTop (mkF m 44 #[.val (.int p1), .val (.int p2), .val (.int p3), .val (.int p4), .val (.int (3 : Int32)), .val (.ref b54), .unset, .unset, .unset, .unset, .unset] [(.int (2 : Int32)), (.ref b54)]))
  refine own_st (fun t k => XS.iloadN X58.here hx rfl (hb hby at_44) rfl k) ?_
  show own_Go p e below K (T58.setTop (mkF m 45 #[.val (.int p1), .val (.int p2), .val (.int p3), .val (.int p4), .val (.int (3 : Int32)), .val (.ref b54), .unset, .unset, .unset, .unset, .unset] [(.int p4), (.int (2 : Int32)), (.ref b54)]))
  refine own_st (fun t k => XS.i2b X58.here hx rfl (hb hby at_45) rfl k) ?_
  show own_Go p e below K (T58.setTop (mkF m 46 #[.val (.int p1), .val (.int p2), .val (.int p3), .val (.int p4), .val (.int (3 : Int32)), .val (.ref b54), .unset, .unset, .unset, .unset, .unset] [(.int (p4.toInt8.toInt32)), (.int (2 : Int32)), (.ref b54)]))
  obtain ⟨cl59, Ar59, qa59, Sa59, Ma59, Ha59, Ga59⟩ := id V58
  have hin59 : ¬ ((2 : Int32) < 0 ∨ cl59.slots.size ≤ ((2 : Int32)).toNatClampNeg) := inb_of Sa59 ⟨by decide, by decide⟩
  obtain ⟨T60, h60, X60, e60, W60, st60⟩ := stB X58 hx hZ e58 Ar59 (j := (2 : Int32)) hin59 (g := (mkF m 46 #[.val (.int p1), .val (.int p2), .val (.int p3), .val (.int p4), .val (.int (3 : Int32)), .val (.ref b54), .unset, .unset, .unset, .unset, .unset] [(.int (p4.toInt8.toInt32)), (.int (2 : Int32)), (.ref b54)])) rfl rfl (hb hby at_46)
  have id60 : nar .byte (p4.toInt8.toInt32) = (p4.toInt8.toInt32) := (own_nb _)
  rw [id60] at W60
  have V60 : Arv Z h60 b54 k54 .byte (3 : Int32) [(.int (p2.toInt8.toInt32)), (.int (p3.toInt8.toInt32)), (.int (p4.toInt8.toInt32))] (.int (0 : Int32)) := Arv.set Ar59 qa59 Sa59 Ma59 Ha59 Ga59 (own_fit id60) W60 2 rfl (Nat.le_of_ble_eq_true rfl)
  have N60 := Fr.snoc X60 N58 g_b54
  have Z60 : n0 ≤ h60.size := Nat.le_trans Z58 (Keep.of_wr W60).1
  refine own_st st60 ?_
  show own_Go p e below K (T60.setTop (mkF m 47 #[.val (.int p1), .val (.int p2), .val (.int p3), .val (.int p4), .val (.int (3 : Int32)), .val (.ref b54), .unset, .unset, .unset, .unset, .unset] []))
  try clear X58 e58 st60
  refine own_st (fun t k => XS.iload X60.here hx rfl (hb hby at_47) rfl k) ?_
  show own_Go p e below K (T60.setTop (mkF m 49 #[.val (.int p1), .val (.int p2), .val (.int p3), .val (.int p4), .val (.int (3 : Int32)), .val (.ref b54), .unset, .unset, .unset, .unset, .unset] [(.int (3 : Int32))]))
  refine own_st (fun t k => XS.iconst X60.here hx rfl (hb hby at_49) k) ?_
  show own_Go p e below K (T60.setTop (mkF m 50 #[.val (.int p1), .val (.int p2), .val (.int p3), .val (.int p4), .val (.int (3 : Int32)), .val (.ref b54), .unset, .unset, .unset, .unset, .unset] [(.int (1 : Int32)), (.int (3 : Int32))]))
  refine own_st (fun t k => XS.icmpNo X60.here hx rfl (hb hby at_50) rfl (flt (by decide : ¬ ((3 : Int32) < (1 : Int32)))).1 k) ?_
  show own_Go p e below K (T60.setTop (mkF m 53 #[.val (.int p1), .val (.int p2), .val (.int p3), .val (.int p4), .val (.int (3 : Int32)), .val (.ref b54), .unset, .unset, .unset, .unset, .unset] []))
  refine own_st (fun t k => XS.aload X60.here hx rfl (hb hby at_53) rfl rfl k) ?_
  show own_Go p e below K (T60.setTop (mkF m 55 #[.val (.int p1), .val (.int p2), .val (.int p3), .val (.int p4), .val (.int (3 : Int32)), .val (.ref b54), .unset, .unset, .unset, .unset, .unset] [(.ref b54)]))
  refine own_st (fun t k => XS.iload X60.here hx rfl (hb hby at_55) rfl k) ?_
  show own_Go p e below K (T60.setTop (mkF m 57 #[.val (.int p1), .val (.int p2), .val (.int p3), .val (.int p4), .val (.int (3 : Int32)), .val (.ref b54), .unset, .unset, .unset, .unset, .unset] [(.int (3 : Int32)), (.ref b54)]))
  refine own_st (fun t k => XS.iconst X60.here hx rfl (hb hby at_57) k) ?_
  show own_Go p e below K (T60.setTop (mkF m 58 #[.val (.int p1), .val (.int p2), .val (.int p3), .val (.int p4), .val (.int (3 : Int32)), .val (.ref b54), .unset, .unset, .unset, .unset, .unset] [(.int (1 : Int32)), (.int (3 : Int32)), (.ref b54)]))
  refine own_st (fun t k => XS.isub X60.here hx rfl (hb hby at_58) rfl k) ?_
  show own_Go p e below K (T60.setTop (mkF m 59 #[.val (.int p1), .val (.int p2), .val (.int p3), .val (.int p4), .val (.int (3 : Int32)), .val (.ref b54), .unset, .unset, .unset, .unset, .unset] [(.int ((3 : Int32) - (1 : Int32))), (.ref b54)]))
  rw [show ((3 : Int32) - (1 : Int32)) = (2 : Int32) from by decide]
  show own_Go p e below K (T60.setTop (mkF m 59 #[.val (.int p1), .val (.int p2), .val (.int p3), .val (.int p4), .val (.int (3 : Int32)), .val (.ref b54), .unset, .unset, .unset, .unset, .unset] [(.int (2 : Int32)), (.ref b54)]))
  refine own_st (fun t k => XS.aload X60.here hx rfl (hb hby at_59) rfl rfl k) ?_
  show own_Go p e below K (T60.setTop (mkF m 61 #[.val (.int p1), .val (.int p2), .val (.int p3), .val (.int p4), .val (.int (3 : Int32)), .val (.ref b54), .unset, .unset, .unset, .unset, .unset] [(.ref b54), (.int (2 : Int32)), (.ref b54)]))
  refine own_st (fun t k => XS.iload X60.here hx rfl (hb hby at_61) rfl k) ?_
  show own_Go p e below K (T60.setTop (mkF m 63 #[.val (.int p1), .val (.int p2), .val (.int p3), .val (.int p4), .val (.int (3 : Int32)), .val (.ref b54), .unset, .unset, .unset, .unset, .unset] [(.int (3 : Int32)), (.ref b54), (.int (2 : Int32)), (.ref b54)]))
  refine own_st (fun t k => XS.iconst X60.here hx rfl (hb hby at_63) k) ?_
  show own_Go p e below K (T60.setTop (mkF m 64 #[.val (.int p1), .val (.int p2), .val (.int p3), .val (.int p4), .val (.int (3 : Int32)), .val (.ref b54), .unset, .unset, .unset, .unset, .unset] [(.int (1 : Int32)), (.int (3 : Int32)), (.ref b54), (.int (2 : Int32)), (.ref b54)]))
  refine own_st (fun t k => XS.isub X60.here hx rfl (hb hby at_64) rfl k) ?_
  show own_Go p e below K (T60.setTop (mkF m 65 #[.val (.int p1), .val (.int p2), .val (.int p3), .val (.int p4), .val (.int (3 : Int32)), .val (.ref b54), .unset, .unset, .unset, .unset, .unset] [(.int ((3 : Int32) - (1 : Int32))), (.ref b54), (.int (2 : Int32)), (.ref b54)]))
  rw [show ((3 : Int32) - (1 : Int32)) = (2 : Int32) from by decide]
  show own_Go p e below K (T60.setTop (mkF m 65 #[.val (.int p1), .val (.int p2), .val (.int p3), .val (.int p4), .val (.int (3 : Int32)), .val (.ref b54), .unset, .unset, .unset, .unset, .unset] [(.int (2 : Int32)), (.ref b54), (.int (2 : Int32)), (.ref b54)]))
  obtain ⟨cl61, Ar61, qa61, Sa61, Ma61, Ha61, Ga61⟩ := id V60
  have hin61 : ¬ ((2 : Int32) < 0 ∨ cl61.slots.size ≤ ((2 : Int32)).toNatClampNeg) := inb_of Sa61 ⟨by decide, by decide⟩
  refine own_st (X60.baloadBytes hx (j := (2 : Int32)) (v := (.int (p4.toInt8.toInt32))) (own_hat e60 Ar61.1) (State.isArrayOf_alike hZ.alike Ar61.2.1) Ar61.2.2 hin61 (Has.at Ha61 hin61 rfl) (g := (mkF m 65 #[.val (.int p1), .val (.int p2), .val (.int p3), .val (.int p4), .val (.int (3 : Int32)), .val (.ref b54), .unset, .unset, .unset, .unset, .unset] [(.int (2 : Int32)), (.ref b54), (.int (2 : Int32)), (.ref b54)])) rfl rfl (hb hby at_65)) ?_
  show own_Go p e below K (T60.setTop (mkF m 66 #[.val (.int p1), .val (.int p2), .val (.int p3), .val (.int p4), .val (.int (3 : Int32)), .val (.ref b54), .unset, .unset, .unset, .unset, .unset] [(.int (p4.toInt8.toInt32)), (.int (2 : Int32)), (.ref b54)]))
  refine own_st (fun t k => XS.bipush X60.here hx rfl (hb hby at_66) k) ?_
  show own_Go p e below K (T60.setTop (mkF m 68 #[.val (.int p1), .val (.int p2), .val (.int p3), .val (.int p4), .val (.int (3 : Int32)), .val (.ref b54), .unset, .unset, .unset, .unset, .unset] [(.int (127 : Int32)), (.int (p4.toInt8.toInt32)), (.int (2 : Int32)), (.ref b54)]))
  refine own_st (fun t k => XS.iand X60.here hx rfl (hb hby at_68) rfl k) ?_
  show own_Go p e below K (T60.setTop (mkF m 69 #[.val (.int p1), .val (.int p2), .val (.int p3), .val (.int p4), .val (.int (3 : Int32)), .val (.ref b54), .unset, .unset, .unset, .unset, .unset] [(.int ((p4.toInt8.toInt32) &&& (127 : Int32))), (.int (2 : Int32)), (.ref b54)]))
  refine own_st (fun t k => XS.i2b X60.here hx rfl (hb hby at_69) rfl k) ?_
  show own_Go p e below K (T60.setTop (mkF m 70 #[.val (.int p1), .val (.int p2), .val (.int p3), .val (.int p4), .val (.int (3 : Int32)), .val (.ref b54), .unset, .unset, .unset, .unset, .unset] [(.int (((p4.toInt8.toInt32) &&& (127 : Int32)).toInt8.toInt32)), (.int (2 : Int32)), (.ref b54)]))
  obtain ⟨cl62, Ar62, qa62, Sa62, Ma62, Ha62, Ga62⟩ := id V60
  have hin62 : ¬ ((2 : Int32) < 0 ∨ cl62.slots.size ≤ ((2 : Int32)).toNatClampNeg) := inb_of Sa62 ⟨by decide, by decide⟩
  obtain ⟨T63, h63, X63, e63, W63, st63⟩ := stB X60 hx hZ e60 Ar62 (j := (2 : Int32)) hin62 (g := (mkF m 70 #[.val (.int p1), .val (.int p2), .val (.int p3), .val (.int p4), .val (.int (3 : Int32)), .val (.ref b54), .unset, .unset, .unset, .unset, .unset] [(.int (((p4.toInt8.toInt32) &&& (127 : Int32)).toInt8.toInt32)), (.int (2 : Int32)), (.ref b54)])) rfl rfl (hb hby at_70)
  have id63 : nar .byte (((p4.toInt8.toInt32) &&& (127 : Int32)).toInt8.toInt32) = (((p4.toInt8.toInt32) &&& (127 : Int32)).toInt8.toInt32) := (own_nb _)
  rw [id63] at W63
  have V63 : Arv Z h63 b54 k54 .byte (3 : Int32) [(.int (p2.toInt8.toInt32)), (.int (p3.toInt8.toInt32)), (.int (((p4.toInt8.toInt32) &&& (127 : Int32)).toInt8.toInt32))] (.int (0 : Int32)) := Arv.set Ar62 qa62 Sa62 Ma62 Ha62 Ga62 (own_fit id63) W63 2 rfl (Nat.le_of_ble_eq_true rfl)
  have N63 := Fr.snoc X63 N60 g_b54
  have Z63 : n0 ≤ h63.size := Nat.le_trans Z60 (Keep.of_wr W63).1
  refine own_st st63 ?_
  show own_Go p e below K (T63.setTop (mkF m 71 #[.val (.int p1), .val (.int p2), .val (.int p3), .val (.int p4), .val (.int (3 : Int32)), .val (.ref b54), .unset, .unset, .unset, .unset, .unset] []))
  try clear X60 e60 st63
  obtain ⟨ys, hys⟩ : ∃ z : List Int32, z = [(p2.toInt8.toInt32), (p3.toInt8.toInt32), (((p4.toInt8.toInt32) &&& (127 : Int32)).toInt8.toInt32)] := ⟨_, rfl⟩
  have V64 : Arv Z h63 b54 k54 .byte (3 : Int32) (ys.map Value.int) (.int (0 : Int32)) := by rw [hys]; exact V63
  have yl : ¬ ys.getD 2 0 < 0 := by rw [hys]; exact own_pos _
  obtain ⟨T65, h65, X65, e65, E65, A65, D65, -, st65⟩ := newO X63 hx hZ hown (hw _ (List.mem_of_getElem? (i := 1) rfl)) (hw _ (List.mem_of_getElem? (i := 2) rfl)) (hw _ (List.mem_of_getElem? (i := 3) rfl)) e63 (g := (mkF m 71 #[.val (.int p1), .val (.int p2), .val (.int p3), .val (.int p4), .val (.int (3 : Int32)), .val (.ref b54), .unset, .unset, .unset, .unset, .unset] [])) rfl (hb hby at_71) (by decide) (by decide)
  obtain ⟨b65, g65⟩ : ∃ z, z = h63.size := ⟨_, rfl⟩
  rw [← g65] at A65 D65 st65
  have ne_b54_b65 : b54 ≠ b65 := Nat.ne_of_lt (Nat.lt_of_lt_of_le V64.lt (Nat.le_of_eq g65.symm))
  have g_b65 : n0 ≤ b65 := Nat.le_trans Z63 (Nat.le_of_eq g65.symm)
  have f66 : Arv Z h65 b54 k54 .byte (3 : Int32) (ys.map Value.int) (.int (0 : Int32)) := V64.ext E65
  have f67 : Fld Z h65 b65 "com/example/ms2rank/ms2rank/candidate/Unpacker" "packed" "[B" .null := D65 (Or.inr (hw _ (List.mem_of_getElem? (i := 11) rfl))) (ty := (.array .byte)) (by decide)
  have f68 : Fld Z h65 b65 "com/example/ms2rank/ms2rank/candidate/Unpacker" "at" "I" (.int (0 : Int32)) := D65 (Or.inl (hw _ (List.mem_of_getElem? (i := 18) rfl))) (ty := .int) (by decide)
  have Z65 : n0 ≤ h65.size := Nat.le_trans Z63 E65.1
  refine own_st st65 ?_
  show own_Go p e below K (T65.setTop (mkF m 74 #[.val (.int p1), .val (.int p2), .val (.int p3), .val (.int p4), .val (.int (3 : Int32)), .val (.ref b54), .unset, .unset, .unset, .unset, .unset] [(.ref b65)]))
  try clear X63 e63 st65 V64
  refine own_st (fun t k => XS.dup X65.here hx rfl (hb hby at_74) rfl rfl k) ?_
  show own_Go p e below K (T65.setTop (mkF m 75 #[.val (.int p1), .val (.int p2), .val (.int p3), .val (.int p4), .val (.int (3 : Int32)), .val (.ref b54), .unset, .unset, .unset, .unset, .unset] [(.ref b65), (.ref b65)]))
  refine own_st (fun t k => XS.aload X65.here hx rfl (hb hby at_75) rfl rfl k) ?_
  show own_Go p e below K (T65.setTop (mkF m 77 #[.val (.int p1), .val (.int p2), .val (.int p3), .val (.int p4), .val (.int (3 : Int32)), .val (.ref b54), .unset, .unset, .unset, .unset, .unset] [(.ref b54), (.ref b65), (.ref b65)]))
  obtain ⟨_, _, ⟨T69, L69, k69, n69⟩, -, X69, ⟨Lc69, hQ69, l69, y69, z69⟩, st69⟩ := X65.specialBack hx (y := (⟨"com/example/ms2rank/ms2rank/candidate/Unpacker", "<init>", "([B)V"⟩ : MethodName)) rfl hown (mvT hZ (hw _ (List.mem_of_getElem? (i := 4) rfl))) (mvT hZ (hw _ (List.mem_of_getElem? (i := 5) rfl))) (mvT hZ (hw _ (List.mem_of_getElem? (i := 6) rfl))) (by decide) (backOf (W := 1) (rm1 l Z a0 hw [] b65 b54 h65 n0 Z65 g_b65 A65 f67 f68) hZ (hw _ (List.mem_of_getElem? (i := 6) rfl)) (hw _ (List.mem_of_getElem? (i := 3) rfl)) (by decide) (by decide)) (g := (mkF m 77 #[.val (.int p1), .val (.int p2), .val (.int p3), .val (.int p4), .val (.int (3 : Int32)), .val (.ref b54), .unset, .unset, .unset, .unset, .unset] [(.ref b54), (.ref b65), (.ref b65)])) rfl (by rw [hml]; rfl) (Steps.refl _) (a := b65) (argsL := [(.ref b54)]) (rest := [(.ref b65)]) (lenOf pd_0_0 rfl) rfl (by show 2 * 0 + _ ≤ _; exact Nat.le_of_eq rfl) (hb hby at_77) (fun _ _ => ⟨rfl, e65, (by decide : 2 + 0 ≤ _), (by decide : 5 + 0 ≤ _)⟩)
  dsimp only [Pt.U, Pt.locs, Pt.cells, Pt.slots] at X69 l69 y69 z69 st69 hQ69
  obtain ⟨rfl, N69q, Kq69, p69_0, p69_1, p69_2⟩ := hQ69
  have N69 : Fr n0 L69 := by rw [l69]; exact Fr.app N63 N69q
  clear l69
  have y69' : k69 = 2 := y69
  have z69' : n69 = 5 := z69
  clear y69 z69
  subst y69' z69'
  have f70 : Arv Z T69.heap b54 k54 .byte (3 : Int32) (ys.map Value.int) (.int (0 : Int32)) := f66.keep Kq69 (ninS ne_b54_b65 nin0)
  have Z69 : n0 ≤ T69.heap.size := Nat.le_trans Z65 Kq69.1
  refine own_tr st69 ?_
  show own_Go p e below K (T69.setTop (mkF m 80 #[.val (.int p1), .val (.int p2), .val (.int p3), .val (.int p4), .val (.int (3 : Int32)), .val (.ref b54), .unset, .unset, .unset, .unset, .unset] [(.ref b65)]))
  try clear X65 e65 st69 N63 N69q f66
  refine own_st (fun t k => XS.astore X69.here hx rfl (hb hby at_80) rfl rfl (l' := #[.val (.int p1), .val (.int p2), .val (.int p3), .val (.int p4), .val (.int (3 : Int32)), .val (.ref b54), .val (.ref b65), .unset, .unset, .unset, .unset]) rfl k) ?_
  show own_Go p e below K (T69.setTop (mkF m 82 #[.val (.int p1), .val (.int p2), .val (.int p3), .val (.int p4), .val (.int (3 : Int32)), .val (.ref b54), .val (.ref b65), .unset, .unset, .unset, .unset] []))
  refine own_st (fun t k => XS.aload X69.here hx rfl (hb hby at_82) rfl rfl k) ?_
  show own_Go p e below K (T69.setTop (mkF m 84 #[.val (.int p1), .val (.int p2), .val (.int p3), .val (.int p4), .val (.int (3 : Int32)), .val (.ref b54), .val (.ref b65), .unset, .unset, .unset, .unset] [(.ref b65)]))
  obtain ⟨cq71, kq71, qv71a, qv71b, qv71c⟩ := isOf hZ rfl p69_0
  obtain ⟨_, _, ⟨T71, L71, k71, n71⟩, -, X71, ⟨Lc71, hQ71, l71, y71, z71⟩, st71⟩ := X69.virtualBack hx (y := (⟨"com/example/ms2rank/ms2rank/candidate/Unpacker", "atEnd", "()Z"⟩ : MethodName)) (z := (⟨"com/example/ms2rank/ms2rank/candidate/Unpacker", "atEnd", "()Z"⟩ : MethodName)) hown (mvT hZ (hw _ (List.mem_of_getElem? (i := 12) rfl))) (mvT hZ (hw _ (List.mem_of_getElem? (i := 13) rfl))) (notFace_of_selects (args := #[]) (mvT hZ (hw _ (List.mem_of_getElem? (i := 15) rfl)))) (mvT hZ (hw _ (List.mem_of_getElem? (i := 15) rfl))) (mvT hZ (hw _ (List.mem_of_getElem? (i := 14) rfl))) (by decide) (backOf (W := 0) (rm3 l Z a0 hw [] b65 ((0 : Int32)) (b54) (k54) ((3 : Int32)) (ys) T69.heap n0 Z69 p69_2 p69_1 f70) hZ (hw _ (List.mem_of_getElem? (i := 16) rfl)) (hw _ (List.mem_of_getElem? (i := 3) rfl)) (by decide) (by decide)) qv71a qv71c (g := (mkF m 84 #[.val (.int p1), .val (.int p2), .val (.int p3), .val (.int p4), .val (.int (3 : Int32)), .val (.ref b54), .val (.ref b65), .unset, .unset, .unset, .unset] [(.ref b65)])) rfl (by rw [hml]; rfl) (Steps.refl _) (argsL := []) (rest := []) (lenOf pd_0_2 rfl) rfl (by show 2 * 0 + _ ≤ _; exact Nat.le_of_eq rfl) (hb hby at_84) (fun _ _ => ⟨rfl, rfl, (by decide : 2 + 0 ≤ _), (by decide : 5 + 0 ≤ _)⟩)
  dsimp only [Pt.U, Pt.locs, Pt.cells, Pt.slots] at X71 l71 y71 z71 st71 hQ71
  obtain ⟨r71, rfl, hr71, N71q, e71⟩ := hQ71
  have N71 : Fr n0 L71 := by rw [l71]; exact Fr.app N69 N71q
  clear l71
  have y71' : k71 = 2 := y71
  have z71' : n71 = 5 := z71
  clear y71 z71
  subst y71' z71'
  refine own_tr st71 ?_
  show own_Go p e below K (T71.setTop (mkF m 87 #[.val (.int p1), .val (.int p2), .val (.int p3), .val (.int p4), .val (.int (3 : Int32)), .val (.ref b54), .val (.ref b65), .unset, .unset, .unset, .unset] [(.int r71)]))
  try clear X69 st71 N69 N71q
  refine own_st (fun t k => XS.iload X71.here hx rfl (hb hby at_87) rfl k) ?_
  show own_Go p e below K (T71.setTop (mkF m 89 #[.val (.int p1), .val (.int p2), .val (.int p3), .val (.int p4), .val (.int (3 : Int32)), .val (.ref b54), .val (.ref b65), .unset, .unset, .unset, .unset] [(.int (3 : Int32)), (.int r71)]))
  refine own_st (fun t k => XS.ifYes X71.here hx rfl (pc0 := 89) (pc' := 96) rfl (hb hby at_89) rfl ((if0 _ _).trans (feq (by decide : ¬ ((3 : Int32) = (0 : Int32)))).2) (by decide) (by decide) k) ?_
  show own_Go p e below K (T71.setTop (mkF m 96 #[.val (.int p1), .val (.int p2), .val (.int p3), .val (.int p4), .val (.int (3 : Int32)), .val (.ref b54), .val (.ref b65), .unset, .unset, .unset, .unset] [(.int r71)]))
  refine own_st (fun t k => XS.iconst X71.here hx rfl (hb hby at_96) k) ?_
  show own_Go p e below K (T71.setTop (mkF m 97 #[.val (.int p1), .val (.int p2), .val (.int p3), .val (.int p4), .val (.int (3 : Int32)), .val (.ref b54), .val (.ref b65), .unset, .unset, .unset, .unset] [(.int (0 : Int32)), (.int r71)]))
  refine own_st (fun t k => XS.icmpNo X71.here hx rfl (hb hby at_97) rfl (teq (own_B.zero hr71 (by decide) : r71 = (0 : Int32))).2 k) ?_
  show own_Go p e below K (T71.setTop (mkF m 100 #[.val (.int p1), .val (.int p2), .val (.int p3), .val (.int p4), .val (.int (3 : Int32)), .val (.ref b54), .val (.ref b65), .unset, .unset, .unset, .unset] []))
  refine own_st (fun t k => XS.iconst X71.here hx rfl (hb hby at_100) k) ?_
  show own_Go p e below K (T71.setTop (mkF m 101 #[.val (.int p1), .val (.int p2), .val (.int p3), .val (.int p4), .val (.int (3 : Int32)), .val (.ref b54), .val (.ref b65), .unset, .unset, .unset, .unset] [(.int (1 : Int32))]))
  refine own_st (fun t k => XS.goto X71.here hx rfl (pc0 := 101) (pc' := 105) rfl (hb hby at_101) (by decide) (by decide) k) ?_
  show own_Go p e below K (T71.setTop (mkF m 105 #[.val (.int p1), .val (.int p2), .val (.int p3), .val (.int p4), .val (.int (3 : Int32)), .val (.ref b54), .val (.ref b65), .unset, .unset, .unset, .unset] [(.int (1 : Int32))]))
  refine own_st (fun t k => XS.istore X71.here hx rfl (hb hby at_105) rfl (l' := #[.val (.int p1), .val (.int p2), .val (.int p3), .val (.int p4), .val (.int (3 : Int32)), .val (.ref b54), .val (.ref b65), .val (.int (1 : Int32)), .unset, .unset, .unset]) rfl k) ?_
  show own_Go p e below K (T71.setTop (mkF m 107 #[.val (.int p1), .val (.int p2), .val (.int p3), .val (.int p4), .val (.int (3 : Int32)), .val (.ref b54), .val (.ref b65), .val (.int (1 : Int32)), .unset, .unset, .unset] []))
  refine own_st (fun t k => XS.iload X71.here hx rfl (hb hby at_107) rfl k) ?_
  show own_Go p e below K (T71.setTop (mkF m 109 #[.val (.int p1), .val (.int p2), .val (.int p3), .val (.int p4), .val (.int (3 : Int32)), .val (.ref b54), .val (.ref b65), .val (.int (1 : Int32)), .unset, .unset, .unset] [(.int (3 : Int32))]))
  refine own_st (fun t k => XS.ifYes X71.here hx rfl (pc0 := 109) (pc' := 115) rfl (hb hby at_109) rfl ((if0 _ _).trans (feq (by decide : ¬ ((3 : Int32) = (0 : Int32)))).2) (by decide) (by decide) k) ?_
  show own_Go p e below K (T71.setTop (mkF m 115 #[.val (.int p1), .val (.int p2), .val (.int p3), .val (.int p4), .val (.int (3 : Int32)), .val (.ref b54), .val (.ref b65), .val (.int (1 : Int32)), .unset, .unset, .unset] []))
  refine own_st (fun t k => XS.aload X71.here hx rfl (hb hby at_115) rfl rfl k) ?_
  show own_Go p e below K (T71.setTop (mkF m 117 #[.val (.int p1), .val (.int p2), .val (.int p3), .val (.int p4), .val (.int (3 : Int32)), .val (.ref b54), .val (.ref b65), .val (.int (1 : Int32)), .unset, .unset, .unset] [(.ref b54)]))
  refine own_st (fun t k => XS.iconst X71.here hx rfl (hb hby at_117) k) ?_
  show own_Go p e below K (T71.setTop (mkF m 118 #[.val (.int p1), .val (.int p2), .val (.int p3), .val (.int p4), .val (.int (3 : Int32)), .val (.ref b54), .val (.ref b65), .val (.int (1 : Int32)), .unset, .unset, .unset] [(.int (0 : Int32)), (.ref b54)]))
  obtain ⟨_, _, ⟨T72, L72, k72, n72⟩, -, X72, ⟨Lc72, hQ72, l72, y72, z72⟩, st72⟩ := Jvm.LawKit.callS X71 hx (y := (⟨"com/example/ms2rank/ms2rank/candidate/UnpackerAtEndPinLaw", "next", "([BI)I"⟩ : MethodName)) hown (mvT hZ (hw _ (List.mem_of_getElem? (i := 19) rfl))) (mvT hZ (hw _ (List.mem_of_getElem? (i := 20) rfl))) (mvT hZ (hw _ (List.mem_of_getElem? (i := 21) rfl))) (mvT hZ (hw _ (List.mem_of_getElem? (i := 22) rfl))) (by decide) (backOf (W := 0) (rm4 l Z a0 hw [] b54 (0 : Int32) (k54) ((3 : Int32)) (ys) T69.heap n0 Z69 f70 (by decide)) hZ (hw _ (List.mem_of_getElem? (i := 22) rfl)) (hw _ (List.mem_of_getElem? (i := 21) rfl)) (by decide) (by decide)) (g := (mkF m 118 #[.val (.int p1), .val (.int p2), .val (.int p3), .val (.int p4), .val (.int (3 : Int32)), .val (.ref b54), .val (.ref b65), .val (.int (1 : Int32)), .unset, .unset, .unset] [(.int (0 : Int32)), (.ref b54)])) rfl (by rw [hml]; rfl) (argsL := [(.ref b54), (.int (0 : Int32))]) (rest := []) (lenOf pd_0_3 rfl) rfl (by show 2 * 0 + _ ≤ _; exact Nat.le_of_eq rfl) (hb hby at_118) (fun _ _ => ⟨rfl, e71, (by decide : 2 + 0 ≤ _), (by decide : 5 + 0 ≤ _)⟩)
  dsimp only [Pt.U, Pt.locs, Pt.cells, Pt.slots] at X72 l72 y72 z72 st72 hQ72
  obtain ⟨r72, rfl, hr72, N72q, e72⟩ := hQ72
  have N72 : Fr n0 L72 := by rw [l72]; exact Fr.app N71 N72q
  clear l72
  have y72' : k72 = 2 := y72
  have z72' : n72 = 5 := z72
  clear y72 z72
  subst y72' z72'
  refine own_st st72 ?_
  show own_Go p e below K (T72.setTop (mkF m 121 #[.val (.int p1), .val (.int p2), .val (.int p3), .val (.int p4), .val (.int (3 : Int32)), .val (.ref b54), .val (.ref b65), .val (.int (1 : Int32)), .unset, .unset, .unset] [(.int r72)]))
  try clear X71 e71 st72 N71 N72q
  rcases own_N0 hr72 with ⟨rfl, hA⟩ | ⟨rfl, hB, hA⟩ | ⟨rfl, hB, hB'⟩
  · show own_Go p e below K (T72.setTop (mkF m 121 #[.val (.int p1), .val (.int p2), .val (.int p3), .val (.int p4), .val (.int (3 : Int32)), .val (.ref b54), .val (.ref b65), .val (.int (1 : Int32)), .unset, .unset, .unset] [(.int (1 : Int32))]))
    refine own_st (fun t k => XS.istore X72.here hx rfl (hb hby at_121) rfl (l' := #[.val (.int p1), .val (.int p2), .val (.int p3), .val (.int p4), .val (.int (3 : Int32)), .val (.ref b54), .val (.ref b65), .val (.int (1 : Int32)), .val (.int (1 : Int32)), .unset, .unset]) rfl k) ?_
    show own_Go p e below K (T72.setTop (mkF m 123 #[.val (.int p1), .val (.int p2), .val (.int p3), .val (.int p4), .val (.int (3 : Int32)), .val (.ref b54), .val (.ref b65), .val (.int (1 : Int32)), .val (.int (1 : Int32)), .unset, .unset] []))
    refine own_st (fun t k => XS.aload X72.here hx rfl (hb hby at_123) rfl rfl k) ?_
    show own_Go p e below K (T72.setTop (mkF m 125 #[.val (.int p1), .val (.int p2), .val (.int p3), .val (.int p4), .val (.int (3 : Int32)), .val (.ref b54), .val (.ref b65), .val (.int (1 : Int32)), .val (.int (1 : Int32)), .unset, .unset] [(.ref b65)]))
    obtain ⟨cq73, kq73, qv73a, qv73b, qv73c⟩ := isOf hZ e72 p69_0
    obtain ⟨_, _, ⟨T73, L73, k73, n73⟩, -, X73, ⟨Lc73, hQ73, l73, y73, z73⟩, st73⟩ := X72.virtualBack hx (y := (⟨"com/example/ms2rank/ms2rank/candidate/Unpacker", "number", "()I"⟩ : MethodName)) (z := (⟨"com/example/ms2rank/ms2rank/candidate/Unpacker", "number", "()I"⟩ : MethodName)) hown (mvT hZ (hw _ (List.mem_of_getElem? (i := 23) rfl))) (mvT hZ (hw _ (List.mem_of_getElem? (i := 24) rfl))) (notFace_of_selects (args := #[]) (mvT hZ (hw _ (List.mem_of_getElem? (i := 26) rfl)))) (mvT hZ (hw _ (List.mem_of_getElem? (i := 26) rfl))) (mvT hZ (hw _ (List.mem_of_getElem? (i := 25) rfl))) (by decide) (backOf (W := 0) (rm5 l Z a0 hw [] b65 ((0 : Int32)) (b54) (k54) ((3 : Int32)) (ys) (0) (0) T69.heap n0 Z69 g_b65 (Ne.symm ne_b54_b65) p69_0 p69_2 p69_1 f70 (by decide) (by decide) (by decide) (own_ng0 0) hA.2) hZ (hw _ (List.mem_of_getElem? (i := 27) rfl)) (hw _ (List.mem_of_getElem? (i := 3) rfl)) (by decide) (by decide)) qv73a qv73c (g := (mkF m 125 #[.val (.int p1), .val (.int p2), .val (.int p3), .val (.int p4), .val (.int (3 : Int32)), .val (.ref b54), .val (.ref b65), .val (.int (1 : Int32)), .val (.int (1 : Int32)), .unset, .unset] [(.ref b65)])) rfl (by rw [hml]; rfl) (Steps.refl _) (argsL := []) (rest := []) (lenOf pd_0_4 rfl) rfl (by show 2 * 0 + _ ≤ _; exact Nat.le_of_eq rfl) (hb hby at_125) (fun _ _ => ⟨rfl, e72, (by decide : 2 + 0 ≤ _), (by decide : 5 + 0 ≤ _)⟩)
    dsimp only [Pt.U, Pt.locs, Pt.cells, Pt.slots] at X73 l73 y73 z73 st73 hQ73
    obtain ⟨r73, xq_73, rfl, hr73, N73q, Kq73, p73_0, p73_1, p73_2, pp73_0⟩ := hQ73
    have N73 : Fr n0 L73 := by rw [l73]; exact Fr.app N72 N73q
    clear l73
    have y73' : k73 = 2 := y73
    have z73' : n73 = 5 := z73
    clear y73 z73
    subst y73' z73'
    have f74 : Arv Z T73.heap b54 k54 .byte (3 : Int32) (ys.map Value.int) (.int (0 : Int32)) := f70.keep Kq73 (ninS ne_b54_b65 nin0)
    have Z73 : n0 ≤ T73.heap.size := Nat.le_trans Z69 Kq73.1
    refine own_tr st73 ?_
    show own_Go p e below K (T73.setTop (mkF m 128 #[.val (.int p1), .val (.int p2), .val (.int p3), .val (.int p4), .val (.int (3 : Int32)), .val (.ref b54), .val (.ref b65), .val (.int (1 : Int32)), .val (.int (1 : Int32)), .unset, .unset] [(.int r73)]))
    try clear X72 e72 st73 N72 N73q f70
    obtain rfl := (Int32.toInt_inj.mp (pp73_0 : xq_73.toInt = ((0 + 1 : Nat) : Int)) : xq_73 = (1 : Int32))
    show own_Go p e below K (T73.setTop (mkF m 128 #[.val (.int p1), .val (.int p2), .val (.int p3), .val (.int p4), .val (.int (3 : Int32)), .val (.ref b54), .val (.ref b65), .val (.int (1 : Int32)), .val (.int (1 : Int32)), .unset, .unset] [(.int r73)]))
    refine own_st (fun t k => XS.pop X73.here hx rfl (hb hby at_128) rfl rfl k) ?_
    show own_Go p e below K (T73.setTop (mkF m 129 #[.val (.int p1), .val (.int p2), .val (.int p3), .val (.int p4), .val (.int (3 : Int32)), .val (.ref b54), .val (.ref b65), .val (.int (1 : Int32)), .val (.int (1 : Int32)), .unset, .unset] []))
    refine own_st (fun t k => XS.iload X73.here hx rfl (hb hby at_129) rfl k) ?_
    show own_Go p e below K (T73.setTop (mkF m 131 #[.val (.int p1), .val (.int p2), .val (.int p3), .val (.int p4), .val (.int (3 : Int32)), .val (.ref b54), .val (.ref b65), .val (.int (1 : Int32)), .val (.int (1 : Int32)), .unset, .unset] [(.int (1 : Int32))]))
    refine own_st (fun t k => XS.ifNo X73.here hx rfl (hb hby at_131) rfl ((if0 _ _).trans (feq (by decide : ¬ ((1 : Int32) = (0 : Int32)))).1) k) ?_
    show own_Go p e below K (T73.setTop (mkF m 134 #[.val (.int p1), .val (.int p2), .val (.int p3), .val (.int p4), .val (.int (3 : Int32)), .val (.ref b54), .val (.ref b65), .val (.int (1 : Int32)), .val (.int (1 : Int32)), .unset, .unset] []))
    refine own_st (fun t k => XS.aload X73.here hx rfl (hb hby at_134) rfl rfl k) ?_
    show own_Go p e below K (T73.setTop (mkF m 136 #[.val (.int p1), .val (.int p2), .val (.int p3), .val (.int p4), .val (.int (3 : Int32)), .val (.ref b54), .val (.ref b65), .val (.int (1 : Int32)), .val (.int (1 : Int32)), .unset, .unset] [(.ref b65)]))
    obtain ⟨cq75, kq75, qv75a, qv75b, qv75c⟩ := isOf hZ rfl p73_0
    obtain ⟨_, _, ⟨T75, L75, k75, n75⟩, -, X75, ⟨Lc75, hQ75, l75, y75, z75⟩, st75⟩ := X73.virtualBack hx (y := (⟨"com/example/ms2rank/ms2rank/candidate/Unpacker", "atEnd", "()Z"⟩ : MethodName)) (z := (⟨"com/example/ms2rank/ms2rank/candidate/Unpacker", "atEnd", "()Z"⟩ : MethodName)) hown (mvT hZ (hw _ (List.mem_of_getElem? (i := 12) rfl))) (mvT hZ (hw _ (List.mem_of_getElem? (i := 13) rfl))) (notFace_of_selects (args := #[]) (mvT hZ (hw _ (List.mem_of_getElem? (i := 15) rfl)))) (mvT hZ (hw _ (List.mem_of_getElem? (i := 15) rfl))) (mvT hZ (hw _ (List.mem_of_getElem? (i := 14) rfl))) (by decide) (backOf (W := 0) (rm3 l Z a0 hw [] b65 ((1 : Int32)) (b54) (k54) ((3 : Int32)) (ys) T73.heap n0 Z73 p73_2 p73_1 f74) hZ (hw _ (List.mem_of_getElem? (i := 16) rfl)) (hw _ (List.mem_of_getElem? (i := 3) rfl)) (by decide) (by decide)) qv75a qv75c (g := (mkF m 136 #[.val (.int p1), .val (.int p2), .val (.int p3), .val (.int p4), .val (.int (3 : Int32)), .val (.ref b54), .val (.ref b65), .val (.int (1 : Int32)), .val (.int (1 : Int32)), .unset, .unset] [(.ref b65)])) rfl (by rw [hml]; rfl) (Steps.refl _) (argsL := []) (rest := []) (lenOf pd_0_2 rfl) rfl (by show 2 * 0 + _ ≤ _; exact Nat.le_of_eq rfl) (hb hby at_136) (fun _ _ => ⟨rfl, rfl, (by decide : 2 + 0 ≤ _), (by decide : 5 + 0 ≤ _)⟩)
    dsimp only [Pt.U, Pt.locs, Pt.cells, Pt.slots] at X75 l75 y75 z75 st75 hQ75
    obtain ⟨r75, rfl, hr75, N75q, e75⟩ := hQ75
    have N75 : Fr n0 L75 := by rw [l75]; exact Fr.app N73 N75q
    clear l75
    have y75' : k75 = 2 := y75
    have z75' : n75 = 5 := z75
    clear y75 z75
    subst y75' z75'
    refine own_tr st75 ?_
    show own_Go p e below K (T75.setTop (mkF m 139 #[.val (.int p1), .val (.int p2), .val (.int p3), .val (.int p4), .val (.int (3 : Int32)), .val (.ref b54), .val (.ref b65), .val (.int (1 : Int32)), .val (.int (1 : Int32)), .unset, .unset] [(.int r75)]))
    try clear X73 st75 N73 N75q
    refine own_st (fun t k => XS.iload X75.here hx rfl (hb hby at_139) rfl k) ?_
    show own_Go p e below K (T75.setTop (mkF m 141 #[.val (.int p1), .val (.int p2), .val (.int p3), .val (.int p4), .val (.int (3 : Int32)), .val (.ref b54), .val (.ref b65), .val (.int (1 : Int32)), .val (.int (1 : Int32)), .unset, .unset] [(.int (1 : Int32)), (.int r75)]))
    refine own_st (fun t k => XS.iload X75.here hx rfl (hb hby at_141) rfl k) ?_
    show own_Go p e below K (T75.setTop (mkF m 143 #[.val (.int p1), .val (.int p2), .val (.int p3), .val (.int p4), .val (.int (3 : Int32)), .val (.ref b54), .val (.ref b65), .val (.int (1 : Int32)), .val (.int (1 : Int32)), .unset, .unset] [(.int (3 : Int32)), (.int (1 : Int32)), (.int r75)]))
    refine own_st (fun t k => XS.icmpYes X75.here hx rfl (pc0 := 143) (pc' := 150) rfl (hb hby at_143) rfl (feq (by decide : ¬ ((1 : Int32) = (3 : Int32)))).2 (by decide) (by decide) k) ?_
    show own_Go p e below K (T75.setTop (mkF m 150 #[.val (.int p1), .val (.int p2), .val (.int p3), .val (.int p4), .val (.int (3 : Int32)), .val (.ref b54), .val (.ref b65), .val (.int (1 : Int32)), .val (.int (1 : Int32)), .unset, .unset] [(.int r75)]))
    refine own_st (fun t k => XS.iconst X75.here hx rfl (hb hby at_150) k) ?_
    show own_Go p e below K (T75.setTop (mkF m 151 #[.val (.int p1), .val (.int p2), .val (.int p3), .val (.int p4), .val (.int (3 : Int32)), .val (.ref b54), .val (.ref b65), .val (.int (1 : Int32)), .val (.int (1 : Int32)), .unset, .unset] [(.int (0 : Int32)), (.int r75)]))
    refine own_st (fun t k => XS.icmpNo X75.here hx rfl (hb hby at_151) rfl (teq (own_B.zero hr75 (by decide) : r75 = (0 : Int32))).2 k) ?_
    show own_Go p e below K (T75.setTop (mkF m 154 #[.val (.int p1), .val (.int p2), .val (.int p3), .val (.int p4), .val (.int (3 : Int32)), .val (.ref b54), .val (.ref b65), .val (.int (1 : Int32)), .val (.int (1 : Int32)), .unset, .unset] []))
    refine own_st (fun t k => XS.iconst X75.here hx rfl (hb hby at_154) k) ?_
    show own_Go p e below K (T75.setTop (mkF m 155 #[.val (.int p1), .val (.int p2), .val (.int p3), .val (.int p4), .val (.int (3 : Int32)), .val (.ref b54), .val (.ref b65), .val (.int (1 : Int32)), .val (.int (1 : Int32)), .unset, .unset] [(.int (1 : Int32))]))
    refine own_st (fun t k => XS.goto X75.here hx rfl (pc0 := 155) (pc' := 159) rfl (hb hby at_155) (by decide) (by decide) k) ?_
    show own_Go p e below K (T75.setTop (mkF m 159 #[.val (.int p1), .val (.int p2), .val (.int p3), .val (.int p4), .val (.int (3 : Int32)), .val (.ref b54), .val (.ref b65), .val (.int (1 : Int32)), .val (.int (1 : Int32)), .unset, .unset] [(.int (1 : Int32))]))
    refine own_st (fun t k => XS.istore X75.here hx rfl (hb hby at_159) rfl (l' := #[.val (.int p1), .val (.int p2), .val (.int p3), .val (.int p4), .val (.int (3 : Int32)), .val (.ref b54), .val (.ref b65), .val (.int (1 : Int32)), .val (.int (1 : Int32)), .unset, .unset]) rfl k) ?_
    show own_Go p e below K (T75.setTop (mkF m 161 #[.val (.int p1), .val (.int p2), .val (.int p3), .val (.int p4), .val (.int (3 : Int32)), .val (.ref b54), .val (.ref b65), .val (.int (1 : Int32)), .val (.int (1 : Int32)), .unset, .unset] []))
    refine own_st (fun t k => XS.iload X75.here hx rfl (hb hby at_161) rfl k) ?_
    show own_Go p e below K (T75.setTop (mkF m 163 #[.val (.int p1), .val (.int p2), .val (.int p3), .val (.int p4), .val (.int (3 : Int32)), .val (.ref b54), .val (.ref b65), .val (.int (1 : Int32)), .val (.int (1 : Int32)), .unset, .unset] [(.int (1 : Int32))]))
    refine own_st (fun t k => XS.iload X75.here hx rfl (hb hby at_163) rfl k) ?_
    show own_Go p e below K (T75.setTop (mkF m 165 #[.val (.int p1), .val (.int p2), .val (.int p3), .val (.int p4), .val (.int (3 : Int32)), .val (.ref b54), .val (.ref b65), .val (.int (1 : Int32)), .val (.int (1 : Int32)), .unset, .unset] [(.int (3 : Int32)), (.int (1 : Int32))]))
    refine own_st (fun t k => XS.icmpNo X75.here hx rfl (hb hby at_165) rfl (tlt (by decide : (1 : Int32) < (3 : Int32))).2.1 k) ?_
    show own_Go p e below K (T75.setTop (mkF m 168 #[.val (.int p1), .val (.int p2), .val (.int p3), .val (.int p4), .val (.int (3 : Int32)), .val (.ref b54), .val (.ref b65), .val (.int (1 : Int32)), .val (.int (1 : Int32)), .unset, .unset] []))
    refine own_st (fun t k => XS.aload X75.here hx rfl (hb hby at_168) rfl rfl k) ?_
    show own_Go p e below K (T75.setTop (mkF m 170 #[.val (.int p1), .val (.int p2), .val (.int p3), .val (.int p4), .val (.int (3 : Int32)), .val (.ref b54), .val (.ref b65), .val (.int (1 : Int32)), .val (.int (1 : Int32)), .unset, .unset] [(.ref b54)]))
    refine own_st (fun t k => XS.iload X75.here hx rfl (hb hby at_170) rfl k) ?_
    show own_Go p e below K (T75.setTop (mkF m 172 #[.val (.int p1), .val (.int p2), .val (.int p3), .val (.int p4), .val (.int (3 : Int32)), .val (.ref b54), .val (.ref b65), .val (.int (1 : Int32)), .val (.int (1 : Int32)), .unset, .unset] [(.int (1 : Int32)), (.ref b54)]))
    obtain ⟨_, _, ⟨T76, L76, k76, n76⟩, -, X76, ⟨Lc76, hQ76, l76, y76, z76⟩, st76⟩ := Jvm.LawKit.callS X75 hx (y := (⟨"com/example/ms2rank/ms2rank/candidate/UnpackerAtEndPinLaw", "next", "([BI)I"⟩ : MethodName)) hown (mvT hZ (hw _ (List.mem_of_getElem? (i := 19) rfl))) (mvT hZ (hw _ (List.mem_of_getElem? (i := 20) rfl))) (mvT hZ (hw _ (List.mem_of_getElem? (i := 21) rfl))) (mvT hZ (hw _ (List.mem_of_getElem? (i := 22) rfl))) (by decide) (backOf (W := 0) (rm4 l Z a0 hw [] b54 (1 : Int32) (k54) ((3 : Int32)) (ys) T73.heap n0 Z73 f74 (by decide)) hZ (hw _ (List.mem_of_getElem? (i := 22) rfl)) (hw _ (List.mem_of_getElem? (i := 21) rfl)) (by decide) (by decide)) (g := (mkF m 172 #[.val (.int p1), .val (.int p2), .val (.int p3), .val (.int p4), .val (.int (3 : Int32)), .val (.ref b54), .val (.ref b65), .val (.int (1 : Int32)), .val (.int (1 : Int32)), .unset, .unset] [(.int (1 : Int32)), (.ref b54)])) rfl (by rw [hml]; rfl) (argsL := [(.ref b54), (.int (1 : Int32))]) (rest := []) (lenOf pd_0_3 rfl) rfl (by show 2 * 0 + _ ≤ _; exact Nat.le_of_eq rfl) (hb hby at_172) (fun _ _ => ⟨rfl, e75, (by decide : 2 + 0 ≤ _), (by decide : 5 + 0 ≤ _)⟩)
    dsimp only [Pt.U, Pt.locs, Pt.cells, Pt.slots] at X76 l76 y76 z76 st76 hQ76
    obtain ⟨r76, rfl, hr76, N76q, e76⟩ := hQ76
    have N76 : Fr n0 L76 := by rw [l76]; exact Fr.app N75 N76q
    clear l76
    have y76' : k76 = 2 := y76
    have z76' : n76 = 5 := z76
    clear y76 z76
    subst y76' z76'
    refine own_st st76 ?_
    show own_Go p e below K (T76.setTop (mkF m 175 #[.val (.int p1), .val (.int p2), .val (.int p3), .val (.int p4), .val (.int (3 : Int32)), .val (.ref b54), .val (.ref b65), .val (.int (1 : Int32)), .val (.int (1 : Int32)), .unset, .unset] [(.int r76)]))
    try clear X75 e75 st76 N75 N76q
    rcases own_N1 hr76 with ⟨rfl, hA⟩ | ⟨rfl, hB, hA⟩ | ⟨rfl, hB, hB'⟩
    · show own_Go p e below K (T76.setTop (mkF m 175 #[.val (.int p1), .val (.int p2), .val (.int p3), .val (.int p4), .val (.int (3 : Int32)), .val (.ref b54), .val (.ref b65), .val (.int (1 : Int32)), .val (.int (1 : Int32)), .unset, .unset] [(.int (2 : Int32))]))
      refine own_st (fun t k => XS.istore X76.here hx rfl (hb hby at_175) rfl (l' := #[.val (.int p1), .val (.int p2), .val (.int p3), .val (.int p4), .val (.int (3 : Int32)), .val (.ref b54), .val (.ref b65), .val (.int (1 : Int32)), .val (.int (1 : Int32)), .val (.int (2 : Int32)), .unset]) rfl k) ?_
      show own_Go p e below K (T76.setTop (mkF m 177 #[.val (.int p1), .val (.int p2), .val (.int p3), .val (.int p4), .val (.int (3 : Int32)), .val (.ref b54), .val (.ref b65), .val (.int (1 : Int32)), .val (.int (1 : Int32)), .val (.int (2 : Int32)), .unset] []))
      refine own_st (fun t k => XS.aload X76.here hx rfl (hb hby at_177) rfl rfl k) ?_
      show own_Go p e below K (T76.setTop (mkF m 179 #[.val (.int p1), .val (.int p2), .val (.int p3), .val (.int p4), .val (.int (3 : Int32)), .val (.ref b54), .val (.ref b65), .val (.int (1 : Int32)), .val (.int (1 : Int32)), .val (.int (2 : Int32)), .unset] [(.ref b65)]))
      obtain ⟨cq77, kq77, qv77a, qv77b, qv77c⟩ := isOf hZ e76 p73_0
      obtain ⟨_, _, ⟨T77, L77, k77, n77⟩, -, X77, ⟨Lc77, hQ77, l77, y77, z77⟩, st77⟩ := X76.virtualBack hx (y := (⟨"com/example/ms2rank/ms2rank/candidate/Unpacker", "number", "()I"⟩ : MethodName)) (z := (⟨"com/example/ms2rank/ms2rank/candidate/Unpacker", "number", "()I"⟩ : MethodName)) hown (mvT hZ (hw _ (List.mem_of_getElem? (i := 23) rfl))) (mvT hZ (hw _ (List.mem_of_getElem? (i := 24) rfl))) (notFace_of_selects (args := #[]) (mvT hZ (hw _ (List.mem_of_getElem? (i := 26) rfl)))) (mvT hZ (hw _ (List.mem_of_getElem? (i := 26) rfl))) (mvT hZ (hw _ (List.mem_of_getElem? (i := 25) rfl))) (by decide) (backOf (W := 0) (rm5 l Z a0 hw [] b65 ((1 : Int32)) (b54) (k54) ((3 : Int32)) (ys) (1) (1) T73.heap n0 Z73 g_b65 (Ne.symm ne_b54_b65) p73_0 p73_2 p73_1 f74 (by decide) (by decide) (by decide) (own_ng0 1) hA.2) hZ (hw _ (List.mem_of_getElem? (i := 27) rfl)) (hw _ (List.mem_of_getElem? (i := 3) rfl)) (by decide) (by decide)) qv77a qv77c (g := (mkF m 179 #[.val (.int p1), .val (.int p2), .val (.int p3), .val (.int p4), .val (.int (3 : Int32)), .val (.ref b54), .val (.ref b65), .val (.int (1 : Int32)), .val (.int (1 : Int32)), .val (.int (2 : Int32)), .unset] [(.ref b65)])) rfl (by rw [hml]; rfl) (Steps.refl _) (argsL := []) (rest := []) (lenOf pd_0_4 rfl) rfl (by show 2 * 0 + _ ≤ _; exact Nat.le_of_eq rfl) (hb hby at_179) (fun _ _ => ⟨rfl, e76, (by decide : 2 + 0 ≤ _), (by decide : 5 + 0 ≤ _)⟩)
      dsimp only [Pt.U, Pt.locs, Pt.cells, Pt.slots] at X77 l77 y77 z77 st77 hQ77
      obtain ⟨r77, xq_77, rfl, hr77, N77q, Kq77, p77_0, p77_1, p77_2, pp77_0⟩ := hQ77
      have N77 : Fr n0 L77 := by rw [l77]; exact Fr.app N76 N77q
      clear l77
      have y77' : k77 = 2 := y77
      have z77' : n77 = 5 := z77
      clear y77 z77
      subst y77' z77'
      have f78 : Arv Z T77.heap b54 k54 .byte (3 : Int32) (ys.map Value.int) (.int (0 : Int32)) := f74.keep Kq77 (ninS ne_b54_b65 nin0)
      have Z77 : n0 ≤ T77.heap.size := Nat.le_trans Z73 Kq77.1
      refine own_tr st77 ?_
      show own_Go p e below K (T77.setTop (mkF m 182 #[.val (.int p1), .val (.int p2), .val (.int p3), .val (.int p4), .val (.int (3 : Int32)), .val (.ref b54), .val (.ref b65), .val (.int (1 : Int32)), .val (.int (1 : Int32)), .val (.int (2 : Int32)), .unset] [(.int r77)]))
      try clear X76 e76 st77 N76 N77q f74
      obtain rfl := (Int32.toInt_inj.mp (pp77_0 : xq_77.toInt = ((1 + 1 : Nat) : Int)) : xq_77 = (2 : Int32))
      show own_Go p e below K (T77.setTop (mkF m 182 #[.val (.int p1), .val (.int p2), .val (.int p3), .val (.int p4), .val (.int (3 : Int32)), .val (.ref b54), .val (.ref b65), .val (.int (1 : Int32)), .val (.int (1 : Int32)), .val (.int (2 : Int32)), .unset] [(.int r77)]))
      refine own_st (fun t k => XS.pop X77.here hx rfl (hb hby at_182) rfl rfl k) ?_
      show own_Go p e below K (T77.setTop (mkF m 183 #[.val (.int p1), .val (.int p2), .val (.int p3), .val (.int p4), .val (.int (3 : Int32)), .val (.ref b54), .val (.ref b65), .val (.int (1 : Int32)), .val (.int (1 : Int32)), .val (.int (2 : Int32)), .unset] []))
      refine own_st (fun t k => XS.iload X77.here hx rfl (hb hby at_183) rfl k) ?_
      show own_Go p e below K (T77.setTop (mkF m 185 #[.val (.int p1), .val (.int p2), .val (.int p3), .val (.int p4), .val (.int (3 : Int32)), .val (.ref b54), .val (.ref b65), .val (.int (1 : Int32)), .val (.int (1 : Int32)), .val (.int (2 : Int32)), .unset] [(.int (1 : Int32))]))
      refine own_st (fun t k => XS.ifNo X77.here hx rfl (hb hby at_185) rfl ((if0 _ _).trans (feq (by decide : ¬ ((1 : Int32) = (0 : Int32)))).1) k) ?_
      show own_Go p e below K (T77.setTop (mkF m 188 #[.val (.int p1), .val (.int p2), .val (.int p3), .val (.int p4), .val (.int (3 : Int32)), .val (.ref b54), .val (.ref b65), .val (.int (1 : Int32)), .val (.int (1 : Int32)), .val (.int (2 : Int32)), .unset] []))
      refine own_st (fun t k => XS.aload X77.here hx rfl (hb hby at_188) rfl rfl k) ?_
      show own_Go p e below K (T77.setTop (mkF m 190 #[.val (.int p1), .val (.int p2), .val (.int p3), .val (.int p4), .val (.int (3 : Int32)), .val (.ref b54), .val (.ref b65), .val (.int (1 : Int32)), .val (.int (1 : Int32)), .val (.int (2 : Int32)), .unset] [(.ref b65)]))
      obtain ⟨cq79, kq79, qv79a, qv79b, qv79c⟩ := isOf hZ rfl p77_0
      obtain ⟨_, _, ⟨T79, L79, k79, n79⟩, -, X79, ⟨Lc79, hQ79, l79, y79, z79⟩, st79⟩ := X77.virtualBack hx (y := (⟨"com/example/ms2rank/ms2rank/candidate/Unpacker", "atEnd", "()Z"⟩ : MethodName)) (z := (⟨"com/example/ms2rank/ms2rank/candidate/Unpacker", "atEnd", "()Z"⟩ : MethodName)) hown (mvT hZ (hw _ (List.mem_of_getElem? (i := 12) rfl))) (mvT hZ (hw _ (List.mem_of_getElem? (i := 13) rfl))) (notFace_of_selects (args := #[]) (mvT hZ (hw _ (List.mem_of_getElem? (i := 15) rfl)))) (mvT hZ (hw _ (List.mem_of_getElem? (i := 15) rfl))) (mvT hZ (hw _ (List.mem_of_getElem? (i := 14) rfl))) (by decide) (backOf (W := 0) (rm3 l Z a0 hw [] b65 ((2 : Int32)) (b54) (k54) ((3 : Int32)) (ys) T77.heap n0 Z77 p77_2 p77_1 f78) hZ (hw _ (List.mem_of_getElem? (i := 16) rfl)) (hw _ (List.mem_of_getElem? (i := 3) rfl)) (by decide) (by decide)) qv79a qv79c (g := (mkF m 190 #[.val (.int p1), .val (.int p2), .val (.int p3), .val (.int p4), .val (.int (3 : Int32)), .val (.ref b54), .val (.ref b65), .val (.int (1 : Int32)), .val (.int (1 : Int32)), .val (.int (2 : Int32)), .unset] [(.ref b65)])) rfl (by rw [hml]; rfl) (Steps.refl _) (argsL := []) (rest := []) (lenOf pd_0_2 rfl) rfl (by show 2 * 0 + _ ≤ _; exact Nat.le_of_eq rfl) (hb hby at_190) (fun _ _ => ⟨rfl, rfl, (by decide : 2 + 0 ≤ _), (by decide : 5 + 0 ≤ _)⟩)
      dsimp only [Pt.U, Pt.locs, Pt.cells, Pt.slots] at X79 l79 y79 z79 st79 hQ79
      obtain ⟨r79, rfl, hr79, N79q, e79⟩ := hQ79
      have N79 : Fr n0 L79 := by rw [l79]; exact Fr.app N77 N79q
      clear l79
      have y79' : k79 = 2 := y79
      have z79' : n79 = 5 := z79
      clear y79 z79
      subst y79' z79'
      refine own_tr st79 ?_
      show own_Go p e below K (T79.setTop (mkF m 193 #[.val (.int p1), .val (.int p2), .val (.int p3), .val (.int p4), .val (.int (3 : Int32)), .val (.ref b54), .val (.ref b65), .val (.int (1 : Int32)), .val (.int (1 : Int32)), .val (.int (2 : Int32)), .unset] [(.int r79)]))
      try clear X77 st79 N77 N79q
      refine own_st (fun t k => XS.iload X79.here hx rfl (hb hby at_193) rfl k) ?_
      show own_Go p e below K (T79.setTop (mkF m 195 #[.val (.int p1), .val (.int p2), .val (.int p3), .val (.int p4), .val (.int (3 : Int32)), .val (.ref b54), .val (.ref b65), .val (.int (1 : Int32)), .val (.int (1 : Int32)), .val (.int (2 : Int32)), .unset] [(.int (2 : Int32)), (.int r79)]))
      refine own_st (fun t k => XS.iload X79.here hx rfl (hb hby at_195) rfl k) ?_
      show own_Go p e below K (T79.setTop (mkF m 197 #[.val (.int p1), .val (.int p2), .val (.int p3), .val (.int p4), .val (.int (3 : Int32)), .val (.ref b54), .val (.ref b65), .val (.int (1 : Int32)), .val (.int (1 : Int32)), .val (.int (2 : Int32)), .unset] [(.int (3 : Int32)), (.int (2 : Int32)), (.int r79)]))
      refine own_st (fun t k => XS.icmpYes X79.here hx rfl (pc0 := 197) (pc' := 204) rfl (hb hby at_197) rfl (feq (by decide : ¬ ((2 : Int32) = (3 : Int32)))).2 (by decide) (by decide) k) ?_
      show own_Go p e below K (T79.setTop (mkF m 204 #[.val (.int p1), .val (.int p2), .val (.int p3), .val (.int p4), .val (.int (3 : Int32)), .val (.ref b54), .val (.ref b65), .val (.int (1 : Int32)), .val (.int (1 : Int32)), .val (.int (2 : Int32)), .unset] [(.int r79)]))
      refine own_st (fun t k => XS.iconst X79.here hx rfl (hb hby at_204) k) ?_
      show own_Go p e below K (T79.setTop (mkF m 205 #[.val (.int p1), .val (.int p2), .val (.int p3), .val (.int p4), .val (.int (3 : Int32)), .val (.ref b54), .val (.ref b65), .val (.int (1 : Int32)), .val (.int (1 : Int32)), .val (.int (2 : Int32)), .unset] [(.int (0 : Int32)), (.int r79)]))
      refine own_st (fun t k => XS.icmpNo X79.here hx rfl (hb hby at_205) rfl (teq (own_B.zero hr79 (by decide) : r79 = (0 : Int32))).2 k) ?_
      show own_Go p e below K (T79.setTop (mkF m 208 #[.val (.int p1), .val (.int p2), .val (.int p3), .val (.int p4), .val (.int (3 : Int32)), .val (.ref b54), .val (.ref b65), .val (.int (1 : Int32)), .val (.int (1 : Int32)), .val (.int (2 : Int32)), .unset] []))
      refine own_st (fun t k => XS.iconst X79.here hx rfl (hb hby at_208) k) ?_
      show own_Go p e below K (T79.setTop (mkF m 209 #[.val (.int p1), .val (.int p2), .val (.int p3), .val (.int p4), .val (.int (3 : Int32)), .val (.ref b54), .val (.ref b65), .val (.int (1 : Int32)), .val (.int (1 : Int32)), .val (.int (2 : Int32)), .unset] [(.int (1 : Int32))]))
      refine own_st (fun t k => XS.goto X79.here hx rfl (pc0 := 209) (pc' := 213) rfl (hb hby at_209) (by decide) (by decide) k) ?_
      show own_Go p e below K (T79.setTop (mkF m 213 #[.val (.int p1), .val (.int p2), .val (.int p3), .val (.int p4), .val (.int (3 : Int32)), .val (.ref b54), .val (.ref b65), .val (.int (1 : Int32)), .val (.int (1 : Int32)), .val (.int (2 : Int32)), .unset] [(.int (1 : Int32))]))
      refine own_st (fun t k => XS.istore X79.here hx rfl (hb hby at_213) rfl (l' := #[.val (.int p1), .val (.int p2), .val (.int p3), .val (.int p4), .val (.int (3 : Int32)), .val (.ref b54), .val (.ref b65), .val (.int (1 : Int32)), .val (.int (1 : Int32)), .val (.int (2 : Int32)), .unset]) rfl k) ?_
      show own_Go p e below K (T79.setTop (mkF m 215 #[.val (.int p1), .val (.int p2), .val (.int p3), .val (.int p4), .val (.int (3 : Int32)), .val (.ref b54), .val (.ref b65), .val (.int (1 : Int32)), .val (.int (1 : Int32)), .val (.int (2 : Int32)), .unset] []))
      refine own_st (fun t k => XS.iload X79.here hx rfl (hb hby at_215) rfl k) ?_
      show own_Go p e below K (T79.setTop (mkF m 217 #[.val (.int p1), .val (.int p2), .val (.int p3), .val (.int p4), .val (.int (3 : Int32)), .val (.ref b54), .val (.ref b65), .val (.int (1 : Int32)), .val (.int (1 : Int32)), .val (.int (2 : Int32)), .unset] [(.int (2 : Int32))]))
      refine own_st (fun t k => XS.iload X79.here hx rfl (hb hby at_217) rfl k) ?_
      show own_Go p e below K (T79.setTop (mkF m 219 #[.val (.int p1), .val (.int p2), .val (.int p3), .val (.int p4), .val (.int (3 : Int32)), .val (.ref b54), .val (.ref b65), .val (.int (1 : Int32)), .val (.int (1 : Int32)), .val (.int (2 : Int32)), .unset] [(.int (3 : Int32)), (.int (2 : Int32))]))
      refine own_st (fun t k => XS.icmpNo X79.here hx rfl (hb hby at_219) rfl (tlt (by decide : (2 : Int32) < (3 : Int32))).2.1 k) ?_
      show own_Go p e below K (T79.setTop (mkF m 222 #[.val (.int p1), .val (.int p2), .val (.int p3), .val (.int p4), .val (.int (3 : Int32)), .val (.ref b54), .val (.ref b65), .val (.int (1 : Int32)), .val (.int (1 : Int32)), .val (.int (2 : Int32)), .unset] []))
      refine own_st (fun t k => XS.aload X79.here hx rfl (hb hby at_222) rfl rfl k) ?_
      show own_Go p e below K (T79.setTop (mkF m 224 #[.val (.int p1), .val (.int p2), .val (.int p3), .val (.int p4), .val (.int (3 : Int32)), .val (.ref b54), .val (.ref b65), .val (.int (1 : Int32)), .val (.int (1 : Int32)), .val (.int (2 : Int32)), .unset] [(.ref b54)]))
      refine own_st (fun t k => XS.iload X79.here hx rfl (hb hby at_224) rfl k) ?_
      show own_Go p e below K (T79.setTop (mkF m 226 #[.val (.int p1), .val (.int p2), .val (.int p3), .val (.int p4), .val (.int (3 : Int32)), .val (.ref b54), .val (.ref b65), .val (.int (1 : Int32)), .val (.int (1 : Int32)), .val (.int (2 : Int32)), .unset] [(.int (2 : Int32)), (.ref b54)]))
      obtain ⟨_, _, ⟨T80, L80, k80, n80⟩, -, X80, ⟨Lc80, hQ80, l80, y80, z80⟩, st80⟩ := Jvm.LawKit.callS X79 hx (y := (⟨"com/example/ms2rank/ms2rank/candidate/UnpackerAtEndPinLaw", "next", "([BI)I"⟩ : MethodName)) hown (mvT hZ (hw _ (List.mem_of_getElem? (i := 19) rfl))) (mvT hZ (hw _ (List.mem_of_getElem? (i := 20) rfl))) (mvT hZ (hw _ (List.mem_of_getElem? (i := 21) rfl))) (mvT hZ (hw _ (List.mem_of_getElem? (i := 22) rfl))) (by decide) (backOf (W := 0) (rm4 l Z a0 hw [] b54 (2 : Int32) (k54) ((3 : Int32)) (ys) T77.heap n0 Z77 f78 (by decide)) hZ (hw _ (List.mem_of_getElem? (i := 22) rfl)) (hw _ (List.mem_of_getElem? (i := 21) rfl)) (by decide) (by decide)) (g := (mkF m 226 #[.val (.int p1), .val (.int p2), .val (.int p3), .val (.int p4), .val (.int (3 : Int32)), .val (.ref b54), .val (.ref b65), .val (.int (1 : Int32)), .val (.int (1 : Int32)), .val (.int (2 : Int32)), .unset] [(.int (2 : Int32)), (.ref b54)])) rfl (by rw [hml]; rfl) (argsL := [(.ref b54), (.int (2 : Int32))]) (rest := []) (lenOf pd_0_3 rfl) rfl (by show 2 * 0 + _ ≤ _; exact Nat.le_of_eq rfl) (hb hby at_226) (fun _ _ => ⟨rfl, e79, (by decide : 2 + 0 ≤ _), (by decide : 5 + 0 ≤ _)⟩)
      dsimp only [Pt.U, Pt.locs, Pt.cells, Pt.slots] at X80 l80 y80 z80 st80 hQ80
      obtain ⟨r80, rfl, hr80, N80q, e80⟩ := hQ80
      have N80 : Fr n0 L80 := by rw [l80]; exact Fr.app N79 N80q
      clear l80
      have y80' : k80 = 2 := y80
      have z80' : n80 = 5 := z80
      clear y80 z80
      subst y80' z80'
      refine own_st st80 ?_
      show own_Go p e below K (T80.setTop (mkF m 229 #[.val (.int p1), .val (.int p2), .val (.int p3), .val (.int p4), .val (.int (3 : Int32)), .val (.ref b54), .val (.ref b65), .val (.int (1 : Int32)), .val (.int (1 : Int32)), .val (.int (2 : Int32)), .unset] [(.int r80)]))
      try clear X79 e79 st80 N79 N80q
      rcases own_N2 hr80 with ⟨rfl, hA⟩ | ⟨rfl, hB, hA⟩ | ⟨rfl, hB, hB'⟩
      · show own_Go p e below K (T80.setTop (mkF m 229 #[.val (.int p1), .val (.int p2), .val (.int p3), .val (.int p4), .val (.int (3 : Int32)), .val (.ref b54), .val (.ref b65), .val (.int (1 : Int32)), .val (.int (1 : Int32)), .val (.int (2 : Int32)), .unset] [(.int (3 : Int32))]))
        refine own_st (fun t k => XS.istore X80.here hx rfl (hb hby at_229) rfl (l' := #[.val (.int p1), .val (.int p2), .val (.int p3), .val (.int p4), .val (.int (3 : Int32)), .val (.ref b54), .val (.ref b65), .val (.int (1 : Int32)), .val (.int (1 : Int32)), .val (.int (2 : Int32)), .val (.int (3 : Int32))]) rfl k) ?_
        show own_Go p e below K (T80.setTop (mkF m 231 #[.val (.int p1), .val (.int p2), .val (.int p3), .val (.int p4), .val (.int (3 : Int32)), .val (.ref b54), .val (.ref b65), .val (.int (1 : Int32)), .val (.int (1 : Int32)), .val (.int (2 : Int32)), .val (.int (3 : Int32))] []))
        refine own_st (fun t k => XS.aload X80.here hx rfl (hb hby at_231) rfl rfl k) ?_
        show own_Go p e below K (T80.setTop (mkF m 233 #[.val (.int p1), .val (.int p2), .val (.int p3), .val (.int p4), .val (.int (3 : Int32)), .val (.ref b54), .val (.ref b65), .val (.int (1 : Int32)), .val (.int (1 : Int32)), .val (.int (2 : Int32)), .val (.int (3 : Int32))] [(.ref b65)]))
        obtain ⟨cq81, kq81, qv81a, qv81b, qv81c⟩ := isOf hZ e80 p77_0
        obtain ⟨_, _, ⟨T81, L81, k81, n81⟩, -, X81, ⟨Lc81, hQ81, l81, y81, z81⟩, st81⟩ := X80.virtualBack hx (y := (⟨"com/example/ms2rank/ms2rank/candidate/Unpacker", "number", "()I"⟩ : MethodName)) (z := (⟨"com/example/ms2rank/ms2rank/candidate/Unpacker", "number", "()I"⟩ : MethodName)) hown (mvT hZ (hw _ (List.mem_of_getElem? (i := 23) rfl))) (mvT hZ (hw _ (List.mem_of_getElem? (i := 24) rfl))) (notFace_of_selects (args := #[]) (mvT hZ (hw _ (List.mem_of_getElem? (i := 26) rfl)))) (mvT hZ (hw _ (List.mem_of_getElem? (i := 26) rfl))) (mvT hZ (hw _ (List.mem_of_getElem? (i := 25) rfl))) (by decide) (backOf (W := 0) (rm5 l Z a0 hw [] b65 ((2 : Int32)) (b54) (k54) ((3 : Int32)) (ys) (2) (2) T77.heap n0 Z77 g_b65 (Ne.symm ne_b54_b65) p77_0 p77_2 p77_1 f78 (by decide) (by decide) (by decide) (own_ng0 2) yl) hZ (hw _ (List.mem_of_getElem? (i := 27) rfl)) (hw _ (List.mem_of_getElem? (i := 3) rfl)) (by decide) (by decide)) qv81a qv81c (g := (mkF m 233 #[.val (.int p1), .val (.int p2), .val (.int p3), .val (.int p4), .val (.int (3 : Int32)), .val (.ref b54), .val (.ref b65), .val (.int (1 : Int32)), .val (.int (1 : Int32)), .val (.int (2 : Int32)), .val (.int (3 : Int32))] [(.ref b65)])) rfl (by rw [hml]; rfl) (Steps.refl _) (argsL := []) (rest := []) (lenOf pd_0_4 rfl) rfl (by show 2 * 0 + _ ≤ _; exact Nat.le_of_eq rfl) (hb hby at_233) (fun _ _ => ⟨rfl, e80, (by decide : 2 + 0 ≤ _), (by decide : 5 + 0 ≤ _)⟩)
        dsimp only [Pt.U, Pt.locs, Pt.cells, Pt.slots] at X81 l81 y81 z81 st81 hQ81
        obtain ⟨r81, xq_81, rfl, hr81, N81q, Kq81, p81_0, p81_1, p81_2, pp81_0⟩ := hQ81
        have N81 : Fr n0 L81 := by rw [l81]; exact Fr.app N80 N81q
        clear l81
        have y81' : k81 = 2 := y81
        have z81' : n81 = 5 := z81
        clear y81 z81
        subst y81' z81'
        have f82 : Arv Z T81.heap b54 k54 .byte (3 : Int32) (ys.map Value.int) (.int (0 : Int32)) := f78.keep Kq81 (ninS ne_b54_b65 nin0)
        have Z81 : n0 ≤ T81.heap.size := Nat.le_trans Z77 Kq81.1
        refine own_tr st81 ?_
        show own_Go p e below K (T81.setTop (mkF m 236 #[.val (.int p1), .val (.int p2), .val (.int p3), .val (.int p4), .val (.int (3 : Int32)), .val (.ref b54), .val (.ref b65), .val (.int (1 : Int32)), .val (.int (1 : Int32)), .val (.int (2 : Int32)), .val (.int (3 : Int32))] [(.int r81)]))
        try clear X80 e80 st81 N80 N81q f78
        obtain rfl := (Int32.toInt_inj.mp (pp81_0 : xq_81.toInt = ((2 + 1 : Nat) : Int)) : xq_81 = (3 : Int32))
        show own_Go p e below K (T81.setTop (mkF m 236 #[.val (.int p1), .val (.int p2), .val (.int p3), .val (.int p4), .val (.int (3 : Int32)), .val (.ref b54), .val (.ref b65), .val (.int (1 : Int32)), .val (.int (1 : Int32)), .val (.int (2 : Int32)), .val (.int (3 : Int32))] [(.int r81)]))
        refine own_st (fun t k => XS.pop X81.here hx rfl (hb hby at_236) rfl rfl k) ?_
        show own_Go p e below K (T81.setTop (mkF m 237 #[.val (.int p1), .val (.int p2), .val (.int p3), .val (.int p4), .val (.int (3 : Int32)), .val (.ref b54), .val (.ref b65), .val (.int (1 : Int32)), .val (.int (1 : Int32)), .val (.int (2 : Int32)), .val (.int (3 : Int32))] []))
        refine own_st (fun t k => XS.iload X81.here hx rfl (hb hby at_237) rfl k) ?_
        show own_Go p e below K (T81.setTop (mkF m 239 #[.val (.int p1), .val (.int p2), .val (.int p3), .val (.int p4), .val (.int (3 : Int32)), .val (.ref b54), .val (.ref b65), .val (.int (1 : Int32)), .val (.int (1 : Int32)), .val (.int (2 : Int32)), .val (.int (3 : Int32))] [(.int (1 : Int32))]))
        refine own_st (fun t k => XS.ifNo X81.here hx rfl (hb hby at_239) rfl ((if0 _ _).trans (feq (by decide : ¬ ((1 : Int32) = (0 : Int32)))).1) k) ?_
        show own_Go p e below K (T81.setTop (mkF m 242 #[.val (.int p1), .val (.int p2), .val (.int p3), .val (.int p4), .val (.int (3 : Int32)), .val (.ref b54), .val (.ref b65), .val (.int (1 : Int32)), .val (.int (1 : Int32)), .val (.int (2 : Int32)), .val (.int (3 : Int32))] []))
        refine own_st (fun t k => XS.aload X81.here hx rfl (hb hby at_242) rfl rfl k) ?_
        show own_Go p e below K (T81.setTop (mkF m 244 #[.val (.int p1), .val (.int p2), .val (.int p3), .val (.int p4), .val (.int (3 : Int32)), .val (.ref b54), .val (.ref b65), .val (.int (1 : Int32)), .val (.int (1 : Int32)), .val (.int (2 : Int32)), .val (.int (3 : Int32))] [(.ref b65)]))
        obtain ⟨cq83, kq83, qv83a, qv83b, qv83c⟩ := isOf hZ rfl p81_0
        obtain ⟨_, _, ⟨T83, L83, k83, n83⟩, -, X83, ⟨Lc83, hQ83, l83, y83, z83⟩, st83⟩ := X81.virtualBack hx (y := (⟨"com/example/ms2rank/ms2rank/candidate/Unpacker", "atEnd", "()Z"⟩ : MethodName)) (z := (⟨"com/example/ms2rank/ms2rank/candidate/Unpacker", "atEnd", "()Z"⟩ : MethodName)) hown (mvT hZ (hw _ (List.mem_of_getElem? (i := 12) rfl))) (mvT hZ (hw _ (List.mem_of_getElem? (i := 13) rfl))) (notFace_of_selects (args := #[]) (mvT hZ (hw _ (List.mem_of_getElem? (i := 15) rfl)))) (mvT hZ (hw _ (List.mem_of_getElem? (i := 15) rfl))) (mvT hZ (hw _ (List.mem_of_getElem? (i := 14) rfl))) (by decide) (backOf (W := 0) (rm3 l Z a0 hw [] b65 ((3 : Int32)) (b54) (k54) ((3 : Int32)) (ys) T81.heap n0 Z81 p81_2 p81_1 f82) hZ (hw _ (List.mem_of_getElem? (i := 16) rfl)) (hw _ (List.mem_of_getElem? (i := 3) rfl)) (by decide) (by decide)) qv83a qv83c (g := (mkF m 244 #[.val (.int p1), .val (.int p2), .val (.int p3), .val (.int p4), .val (.int (3 : Int32)), .val (.ref b54), .val (.ref b65), .val (.int (1 : Int32)), .val (.int (1 : Int32)), .val (.int (2 : Int32)), .val (.int (3 : Int32))] [(.ref b65)])) rfl (by rw [hml]; rfl) (Steps.refl _) (argsL := []) (rest := []) (lenOf pd_0_2 rfl) rfl (by show 2 * 0 + _ ≤ _; exact Nat.le_of_eq rfl) (hb hby at_244) (fun _ _ => ⟨rfl, rfl, (by decide : 2 + 0 ≤ _), (by decide : 5 + 0 ≤ _)⟩)
        dsimp only [Pt.U, Pt.locs, Pt.cells, Pt.slots] at X83 l83 y83 z83 st83 hQ83
        obtain ⟨r83, rfl, hr83, N83q, e83⟩ := hQ83
        have N83 : Fr n0 L83 := by rw [l83]; exact Fr.app N81 N83q
        clear l83
        have y83' : k83 = 2 := y83
        have z83' : n83 = 5 := z83
        clear y83 z83
        subst y83' z83'
        refine own_tr st83 ?_
        show own_Go p e below K (T83.setTop (mkF m 247 #[.val (.int p1), .val (.int p2), .val (.int p3), .val (.int p4), .val (.int (3 : Int32)), .val (.ref b54), .val (.ref b65), .val (.int (1 : Int32)), .val (.int (1 : Int32)), .val (.int (2 : Int32)), .val (.int (3 : Int32))] [(.int r83)]))
        try clear X81 st83 N81 N83q
        refine own_st (fun t k => XS.iload X83.here hx rfl (hb hby at_247) rfl k) ?_
        show own_Go p e below K (T83.setTop (mkF m 249 #[.val (.int p1), .val (.int p2), .val (.int p3), .val (.int p4), .val (.int (3 : Int32)), .val (.ref b54), .val (.ref b65), .val (.int (1 : Int32)), .val (.int (1 : Int32)), .val (.int (2 : Int32)), .val (.int (3 : Int32))] [(.int (3 : Int32)), (.int r83)]))
        refine own_st (fun t k => XS.iload X83.here hx rfl (hb hby at_249) rfl k) ?_
        show own_Go p e below K (T83.setTop (mkF m 251 #[.val (.int p1), .val (.int p2), .val (.int p3), .val (.int p4), .val (.int (3 : Int32)), .val (.ref b54), .val (.ref b65), .val (.int (1 : Int32)), .val (.int (1 : Int32)), .val (.int (2 : Int32)), .val (.int (3 : Int32))] [(.int (3 : Int32)), (.int (3 : Int32)), (.int r83)]))
        refine own_st (fun t k => XS.icmpNo X83.here hx rfl (hb hby at_251) rfl (teq (by decide : (3 : Int32) = (3 : Int32))).2 k) ?_
        show own_Go p e below K (T83.setTop (mkF m 254 #[.val (.int p1), .val (.int p2), .val (.int p3), .val (.int p4), .val (.int (3 : Int32)), .val (.ref b54), .val (.ref b65), .val (.int (1 : Int32)), .val (.int (1 : Int32)), .val (.int (2 : Int32)), .val (.int (3 : Int32))] [(.int r83)]))
        refine own_st (fun t k => XS.iconst X83.here hx rfl (hb hby at_254) k) ?_
        show own_Go p e below K (T83.setTop (mkF m 255 #[.val (.int p1), .val (.int p2), .val (.int p3), .val (.int p4), .val (.int (3 : Int32)), .val (.ref b54), .val (.ref b65), .val (.int (1 : Int32)), .val (.int (1 : Int32)), .val (.int (2 : Int32)), .val (.int (3 : Int32))] [(.int (1 : Int32)), (.int r83)]))
        refine own_st (fun t k => XS.goto X83.here hx rfl (pc0 := 255) (pc' := 259) rfl (hb hby at_255) (by decide) (by decide) k) ?_
        show own_Go p e below K (T83.setTop (mkF m 259 #[.val (.int p1), .val (.int p2), .val (.int p3), .val (.int p4), .val (.int (3 : Int32)), .val (.ref b54), .val (.ref b65), .val (.int (1 : Int32)), .val (.int (1 : Int32)), .val (.int (2 : Int32)), .val (.int (3 : Int32))] [(.int (1 : Int32)), (.int r83)]))
        refine own_st (fun t k => XS.icmpNo X83.here hx rfl (hb hby at_259) rfl (teq (own_B.one hr83 (by decide) : r83 = (1 : Int32))).2 k) ?_
        show own_Go p e below K (T83.setTop (mkF m 262 #[.val (.int p1), .val (.int p2), .val (.int p3), .val (.int p4), .val (.int (3 : Int32)), .val (.ref b54), .val (.ref b65), .val (.int (1 : Int32)), .val (.int (1 : Int32)), .val (.int (2 : Int32)), .val (.int (3 : Int32))] []))
        refine own_st (fun t k => XS.iconst X83.here hx rfl (hb hby at_262) k) ?_
        show own_Go p e below K (T83.setTop (mkF m 263 #[.val (.int p1), .val (.int p2), .val (.int p3), .val (.int p4), .val (.int (3 : Int32)), .val (.ref b54), .val (.ref b65), .val (.int (1 : Int32)), .val (.int (1 : Int32)), .val (.int (2 : Int32)), .val (.int (3 : Int32))] [(.int (1 : Int32))]))
        refine own_st (fun t k => XS.goto X83.here hx rfl (pc0 := 263) (pc' := 267) rfl (hb hby at_263) (by decide) (by decide) k) ?_
        show own_Go p e below K (T83.setTop (mkF m 267 #[.val (.int p1), .val (.int p2), .val (.int p3), .val (.int p4), .val (.int (3 : Int32)), .val (.ref b54), .val (.ref b65), .val (.int (1 : Int32)), .val (.int (1 : Int32)), .val (.int (2 : Int32)), .val (.int (3 : Int32))] [(.int (1 : Int32))]))
        refine own_st (fun t k => XS.istore X83.here hx rfl (hb hby at_267) rfl (l' := #[.val (.int p1), .val (.int p2), .val (.int p3), .val (.int p4), .val (.int (3 : Int32)), .val (.ref b54), .val (.ref b65), .val (.int (1 : Int32)), .val (.int (1 : Int32)), .val (.int (2 : Int32)), .val (.int (3 : Int32))]) rfl k) ?_
        show own_Go p e below K (T83.setTop (mkF m 269 #[.val (.int p1), .val (.int p2), .val (.int p3), .val (.int p4), .val (.int (3 : Int32)), .val (.ref b54), .val (.ref b65), .val (.int (1 : Int32)), .val (.int (1 : Int32)), .val (.int (2 : Int32)), .val (.int (3 : Int32))] []))
        refine own_st (fun t k => XS.iload X83.here hx rfl (hb hby at_269) rfl k) ?_
        show own_Go p e below K (T83.setTop (mkF m 271 #[.val (.int p1), .val (.int p2), .val (.int p3), .val (.int p4), .val (.int (3 : Int32)), .val (.ref b54), .val (.ref b65), .val (.int (1 : Int32)), .val (.int (1 : Int32)), .val (.int (2 : Int32)), .val (.int (3 : Int32))] [(.int (1 : Int32))]))
        obtain ⟨fs, hr, hrun, hended, hW, hsame⟩ := X83.leave (v := some (.int (nar .boolean (1 : Int32)))) (fun h => by rw [Bd.returns] at h; cases h)
        refine ⟨_, retN X83 hx (t := .boolean) Bd.returns (by simp) (hb hby at_271) hr, fin _ _ _ hrun hended ?_ ⟨⟨_, rfl⟩, hW, hsame.mono (by decide) (by decide)⟩⟩
        show Q0 Z p1 p2 p3 p4 h0 n0 _ T83.heap _
        rw [e83]
        exact ⟨rfl, N83⟩
      · exact absurd hA.1 (by decide)
      exact absurd ⟨by decide, yl⟩ hB
    · show own_Go p e below K (T76.setTop (mkF m 175 #[.val (.int p1), .val (.int p2), .val (.int p3), .val (.int p4), .val (.int (3 : Int32)), .val (.ref b54), .val (.ref b65), .val (.int (1 : Int32)), .val (.int (1 : Int32)), .unset, .unset] [(.int (3 : Int32))]))
      refine own_st (fun t k => XS.istore X76.here hx rfl (hb hby at_175) rfl (l' := #[.val (.int p1), .val (.int p2), .val (.int p3), .val (.int p4), .val (.int (3 : Int32)), .val (.ref b54), .val (.ref b65), .val (.int (1 : Int32)), .val (.int (1 : Int32)), .val (.int (3 : Int32)), .unset]) rfl k) ?_
      show own_Go p e below K (T76.setTop (mkF m 177 #[.val (.int p1), .val (.int p2), .val (.int p3), .val (.int p4), .val (.int (3 : Int32)), .val (.ref b54), .val (.ref b65), .val (.int (1 : Int32)), .val (.int (1 : Int32)), .val (.int (3 : Int32)), .unset] []))
      refine own_st (fun t k => XS.aload X76.here hx rfl (hb hby at_177) rfl rfl k) ?_
      show own_Go p e below K (T76.setTop (mkF m 179 #[.val (.int p1), .val (.int p2), .val (.int p3), .val (.int p4), .val (.int (3 : Int32)), .val (.ref b54), .val (.ref b65), .val (.int (1 : Int32)), .val (.int (1 : Int32)), .val (.int (3 : Int32)), .unset] [(.ref b65)]))
      obtain ⟨cq84, kq84, qv84a, qv84b, qv84c⟩ := isOf hZ e76 p73_0
      obtain ⟨_, _, ⟨T84, L84, k84, n84⟩, -, X84, ⟨Lc84, hQ84, l84, y84, z84⟩, st84⟩ := X76.virtualBack hx (y := (⟨"com/example/ms2rank/ms2rank/candidate/Unpacker", "number", "()I"⟩ : MethodName)) (z := (⟨"com/example/ms2rank/ms2rank/candidate/Unpacker", "number", "()I"⟩ : MethodName)) hown (mvT hZ (hw _ (List.mem_of_getElem? (i := 23) rfl))) (mvT hZ (hw _ (List.mem_of_getElem? (i := 24) rfl))) (notFace_of_selects (args := #[]) (mvT hZ (hw _ (List.mem_of_getElem? (i := 26) rfl)))) (mvT hZ (hw _ (List.mem_of_getElem? (i := 26) rfl))) (mvT hZ (hw _ (List.mem_of_getElem? (i := 25) rfl))) (by decide) (backOf (W := 0) (rm5 l Z a0 hw [] b65 ((1 : Int32)) (b54) (k54) ((3 : Int32)) (ys) (1) (2) T73.heap n0 Z73 g_b65 (Ne.symm ne_b54_b65) p73_0 p73_2 p73_1 f74 (by decide) (by decide) (by decide) (own_ng1 1 (own_neg1 hB (by decide))) yl) hZ (hw _ (List.mem_of_getElem? (i := 27) rfl)) (hw _ (List.mem_of_getElem? (i := 3) rfl)) (by decide) (by decide)) qv84a qv84c (g := (mkF m 179 #[.val (.int p1), .val (.int p2), .val (.int p3), .val (.int p4), .val (.int (3 : Int32)), .val (.ref b54), .val (.ref b65), .val (.int (1 : Int32)), .val (.int (1 : Int32)), .val (.int (3 : Int32)), .unset] [(.ref b65)])) rfl (by rw [hml]; rfl) (Steps.refl _) (argsL := []) (rest := []) (lenOf pd_0_4 rfl) rfl (by show 2 * 0 + _ ≤ _; exact Nat.le_of_eq rfl) (hb hby at_179) (fun _ _ => ⟨rfl, e76, (by decide : 2 + 0 ≤ _), (by decide : 5 + 0 ≤ _)⟩)
      dsimp only [Pt.U, Pt.locs, Pt.cells, Pt.slots] at X84 l84 y84 z84 st84 hQ84
      obtain ⟨r84, xq_84, rfl, hr84, N84q, Kq84, p84_0, p84_1, p84_2, pp84_0⟩ := hQ84
      have N84 : Fr n0 L84 := by rw [l84]; exact Fr.app N76 N84q
      clear l84
      have y84' : k84 = 2 := y84
      have z84' : n84 = 5 := z84
      clear y84 z84
      subst y84' z84'
      have f85 : Arv Z T84.heap b54 k54 .byte (3 : Int32) (ys.map Value.int) (.int (0 : Int32)) := f74.keep Kq84 (ninS ne_b54_b65 nin0)
      have Z84 : n0 ≤ T84.heap.size := Nat.le_trans Z73 Kq84.1
      refine own_tr st84 ?_
      show own_Go p e below K (T84.setTop (mkF m 182 #[.val (.int p1), .val (.int p2), .val (.int p3), .val (.int p4), .val (.int (3 : Int32)), .val (.ref b54), .val (.ref b65), .val (.int (1 : Int32)), .val (.int (1 : Int32)), .val (.int (3 : Int32)), .unset] [(.int r84)]))
      try clear X76 e76 st84 N76 N84q f74
      obtain rfl := (Int32.toInt_inj.mp (pp84_0 : xq_84.toInt = ((2 + 1 : Nat) : Int)) : xq_84 = (3 : Int32))
      show own_Go p e below K (T84.setTop (mkF m 182 #[.val (.int p1), .val (.int p2), .val (.int p3), .val (.int p4), .val (.int (3 : Int32)), .val (.ref b54), .val (.ref b65), .val (.int (1 : Int32)), .val (.int (1 : Int32)), .val (.int (3 : Int32)), .unset] [(.int r84)]))
      refine own_st (fun t k => XS.pop X84.here hx rfl (hb hby at_182) rfl rfl k) ?_
      show own_Go p e below K (T84.setTop (mkF m 183 #[.val (.int p1), .val (.int p2), .val (.int p3), .val (.int p4), .val (.int (3 : Int32)), .val (.ref b54), .val (.ref b65), .val (.int (1 : Int32)), .val (.int (1 : Int32)), .val (.int (3 : Int32)), .unset] []))
      refine own_st (fun t k => XS.iload X84.here hx rfl (hb hby at_183) rfl k) ?_
      show own_Go p e below K (T84.setTop (mkF m 185 #[.val (.int p1), .val (.int p2), .val (.int p3), .val (.int p4), .val (.int (3 : Int32)), .val (.ref b54), .val (.ref b65), .val (.int (1 : Int32)), .val (.int (1 : Int32)), .val (.int (3 : Int32)), .unset] [(.int (1 : Int32))]))
      refine own_st (fun t k => XS.ifNo X84.here hx rfl (hb hby at_185) rfl ((if0 _ _).trans (feq (by decide : ¬ ((1 : Int32) = (0 : Int32)))).1) k) ?_
      show own_Go p e below K (T84.setTop (mkF m 188 #[.val (.int p1), .val (.int p2), .val (.int p3), .val (.int p4), .val (.int (3 : Int32)), .val (.ref b54), .val (.ref b65), .val (.int (1 : Int32)), .val (.int (1 : Int32)), .val (.int (3 : Int32)), .unset] []))
      refine own_st (fun t k => XS.aload X84.here hx rfl (hb hby at_188) rfl rfl k) ?_
      show own_Go p e below K (T84.setTop (mkF m 190 #[.val (.int p1), .val (.int p2), .val (.int p3), .val (.int p4), .val (.int (3 : Int32)), .val (.ref b54), .val (.ref b65), .val (.int (1 : Int32)), .val (.int (1 : Int32)), .val (.int (3 : Int32)), .unset] [(.ref b65)]))
      obtain ⟨cq86, kq86, qv86a, qv86b, qv86c⟩ := isOf hZ rfl p84_0
      obtain ⟨_, _, ⟨T86, L86, k86, n86⟩, -, X86, ⟨Lc86, hQ86, l86, y86, z86⟩, st86⟩ := X84.virtualBack hx (y := (⟨"com/example/ms2rank/ms2rank/candidate/Unpacker", "atEnd", "()Z"⟩ : MethodName)) (z := (⟨"com/example/ms2rank/ms2rank/candidate/Unpacker", "atEnd", "()Z"⟩ : MethodName)) hown (mvT hZ (hw _ (List.mem_of_getElem? (i := 12) rfl))) (mvT hZ (hw _ (List.mem_of_getElem? (i := 13) rfl))) (notFace_of_selects (args := #[]) (mvT hZ (hw _ (List.mem_of_getElem? (i := 15) rfl)))) (mvT hZ (hw _ (List.mem_of_getElem? (i := 15) rfl))) (mvT hZ (hw _ (List.mem_of_getElem? (i := 14) rfl))) (by decide) (backOf (W := 0) (rm3 l Z a0 hw [] b65 ((3 : Int32)) (b54) (k54) ((3 : Int32)) (ys) T84.heap n0 Z84 p84_2 p84_1 f85) hZ (hw _ (List.mem_of_getElem? (i := 16) rfl)) (hw _ (List.mem_of_getElem? (i := 3) rfl)) (by decide) (by decide)) qv86a qv86c (g := (mkF m 190 #[.val (.int p1), .val (.int p2), .val (.int p3), .val (.int p4), .val (.int (3 : Int32)), .val (.ref b54), .val (.ref b65), .val (.int (1 : Int32)), .val (.int (1 : Int32)), .val (.int (3 : Int32)), .unset] [(.ref b65)])) rfl (by rw [hml]; rfl) (Steps.refl _) (argsL := []) (rest := []) (lenOf pd_0_2 rfl) rfl (by show 2 * 0 + _ ≤ _; exact Nat.le_of_eq rfl) (hb hby at_190) (fun _ _ => ⟨rfl, rfl, (by decide : 2 + 0 ≤ _), (by decide : 5 + 0 ≤ _)⟩)
      dsimp only [Pt.U, Pt.locs, Pt.cells, Pt.slots] at X86 l86 y86 z86 st86 hQ86
      obtain ⟨r86, rfl, hr86, N86q, e86⟩ := hQ86
      have N86 : Fr n0 L86 := by rw [l86]; exact Fr.app N84 N86q
      clear l86
      have y86' : k86 = 2 := y86
      have z86' : n86 = 5 := z86
      clear y86 z86
      subst y86' z86'
      refine own_tr st86 ?_
      show own_Go p e below K (T86.setTop (mkF m 193 #[.val (.int p1), .val (.int p2), .val (.int p3), .val (.int p4), .val (.int (3 : Int32)), .val (.ref b54), .val (.ref b65), .val (.int (1 : Int32)), .val (.int (1 : Int32)), .val (.int (3 : Int32)), .unset] [(.int r86)]))
      try clear X84 st86 N84 N86q
      refine own_st (fun t k => XS.iload X86.here hx rfl (hb hby at_193) rfl k) ?_
      show own_Go p e below K (T86.setTop (mkF m 195 #[.val (.int p1), .val (.int p2), .val (.int p3), .val (.int p4), .val (.int (3 : Int32)), .val (.ref b54), .val (.ref b65), .val (.int (1 : Int32)), .val (.int (1 : Int32)), .val (.int (3 : Int32)), .unset] [(.int (3 : Int32)), (.int r86)]))
      refine own_st (fun t k => XS.iload X86.here hx rfl (hb hby at_195) rfl k) ?_
      show own_Go p e below K (T86.setTop (mkF m 197 #[.val (.int p1), .val (.int p2), .val (.int p3), .val (.int p4), .val (.int (3 : Int32)), .val (.ref b54), .val (.ref b65), .val (.int (1 : Int32)), .val (.int (1 : Int32)), .val (.int (3 : Int32)), .unset] [(.int (3 : Int32)), (.int (3 : Int32)), (.int r86)]))
      refine own_st (fun t k => XS.icmpNo X86.here hx rfl (hb hby at_197) rfl (teq (by decide : (3 : Int32) = (3 : Int32))).2 k) ?_
      show own_Go p e below K (T86.setTop (mkF m 200 #[.val (.int p1), .val (.int p2), .val (.int p3), .val (.int p4), .val (.int (3 : Int32)), .val (.ref b54), .val (.ref b65), .val (.int (1 : Int32)), .val (.int (1 : Int32)), .val (.int (3 : Int32)), .unset] [(.int r86)]))
      refine own_st (fun t k => XS.iconst X86.here hx rfl (hb hby at_200) k) ?_
      show own_Go p e below K (T86.setTop (mkF m 201 #[.val (.int p1), .val (.int p2), .val (.int p3), .val (.int p4), .val (.int (3 : Int32)), .val (.ref b54), .val (.ref b65), .val (.int (1 : Int32)), .val (.int (1 : Int32)), .val (.int (3 : Int32)), .unset] [(.int (1 : Int32)), (.int r86)]))
      refine own_st (fun t k => XS.goto X86.here hx rfl (pc0 := 201) (pc' := 205) rfl (hb hby at_201) (by decide) (by decide) k) ?_
      show own_Go p e below K (T86.setTop (mkF m 205 #[.val (.int p1), .val (.int p2), .val (.int p3), .val (.int p4), .val (.int (3 : Int32)), .val (.ref b54), .val (.ref b65), .val (.int (1 : Int32)), .val (.int (1 : Int32)), .val (.int (3 : Int32)), .unset] [(.int (1 : Int32)), (.int r86)]))
      refine own_st (fun t k => XS.icmpNo X86.here hx rfl (hb hby at_205) rfl (teq (own_B.one hr86 (by decide) : r86 = (1 : Int32))).2 k) ?_
      show own_Go p e below K (T86.setTop (mkF m 208 #[.val (.int p1), .val (.int p2), .val (.int p3), .val (.int p4), .val (.int (3 : Int32)), .val (.ref b54), .val (.ref b65), .val (.int (1 : Int32)), .val (.int (1 : Int32)), .val (.int (3 : Int32)), .unset] []))
      refine own_st (fun t k => XS.iconst X86.here hx rfl (hb hby at_208) k) ?_
      show own_Go p e below K (T86.setTop (mkF m 209 #[.val (.int p1), .val (.int p2), .val (.int p3), .val (.int p4), .val (.int (3 : Int32)), .val (.ref b54), .val (.ref b65), .val (.int (1 : Int32)), .val (.int (1 : Int32)), .val (.int (3 : Int32)), .unset] [(.int (1 : Int32))]))
      refine own_st (fun t k => XS.goto X86.here hx rfl (pc0 := 209) (pc' := 213) rfl (hb hby at_209) (by decide) (by decide) k) ?_
      show own_Go p e below K (T86.setTop (mkF m 213 #[.val (.int p1), .val (.int p2), .val (.int p3), .val (.int p4), .val (.int (3 : Int32)), .val (.ref b54), .val (.ref b65), .val (.int (1 : Int32)), .val (.int (1 : Int32)), .val (.int (3 : Int32)), .unset] [(.int (1 : Int32))]))
      refine own_st (fun t k => XS.istore X86.here hx rfl (hb hby at_213) rfl (l' := #[.val (.int p1), .val (.int p2), .val (.int p3), .val (.int p4), .val (.int (3 : Int32)), .val (.ref b54), .val (.ref b65), .val (.int (1 : Int32)), .val (.int (1 : Int32)), .val (.int (3 : Int32)), .unset]) rfl k) ?_
      show own_Go p e below K (T86.setTop (mkF m 215 #[.val (.int p1), .val (.int p2), .val (.int p3), .val (.int p4), .val (.int (3 : Int32)), .val (.ref b54), .val (.ref b65), .val (.int (1 : Int32)), .val (.int (1 : Int32)), .val (.int (3 : Int32)), .unset] []))
      refine own_st (fun t k => XS.iload X86.here hx rfl (hb hby at_215) rfl k) ?_
      show own_Go p e below K (T86.setTop (mkF m 217 #[.val (.int p1), .val (.int p2), .val (.int p3), .val (.int p4), .val (.int (3 : Int32)), .val (.ref b54), .val (.ref b65), .val (.int (1 : Int32)), .val (.int (1 : Int32)), .val (.int (3 : Int32)), .unset] [(.int (3 : Int32))]))
      refine own_st (fun t k => XS.iload X86.here hx rfl (hb hby at_217) rfl k) ?_
      show own_Go p e below K (T86.setTop (mkF m 219 #[.val (.int p1), .val (.int p2), .val (.int p3), .val (.int p4), .val (.int (3 : Int32)), .val (.ref b54), .val (.ref b65), .val (.int (1 : Int32)), .val (.int (1 : Int32)), .val (.int (3 : Int32)), .unset] [(.int (3 : Int32)), (.int (3 : Int32))]))
      refine own_st (fun t k => XS.icmpYes X86.here hx rfl (pc0 := 219) (pc' := 269) rfl (hb hby at_219) rfl (flt (by decide : ¬ ((3 : Int32) < (3 : Int32)))).2.1 (by decide) (by decide) k) ?_
      show own_Go p e below K (T86.setTop (mkF m 269 #[.val (.int p1), .val (.int p2), .val (.int p3), .val (.int p4), .val (.int (3 : Int32)), .val (.ref b54), .val (.ref b65), .val (.int (1 : Int32)), .val (.int (1 : Int32)), .val (.int (3 : Int32)), .unset] []))
      refine own_st (fun t k => XS.iload X86.here hx rfl (hb hby at_269) rfl k) ?_
      show own_Go p e below K (T86.setTop (mkF m 271 #[.val (.int p1), .val (.int p2), .val (.int p3), .val (.int p4), .val (.int (3 : Int32)), .val (.ref b54), .val (.ref b65), .val (.int (1 : Int32)), .val (.int (1 : Int32)), .val (.int (3 : Int32)), .unset] [(.int (1 : Int32))]))
      obtain ⟨fs, hr, hrun, hended, hW, hsame⟩ := X86.leave (v := some (.int (nar .boolean (1 : Int32)))) (fun h => by rw [Bd.returns] at h; cases h)
      refine ⟨_, retN X86 hx (t := .boolean) Bd.returns (by simp) (hb hby at_271) hr, fin _ _ _ hrun hended ?_ ⟨⟨_, rfl⟩, hW, hsame.mono (by decide) (by decide)⟩⟩
      show Q0 Z p1 p2 p3 p4 h0 n0 _ T86.heap _
      rw [e86]
      exact ⟨rfl, N86⟩
    exact absurd ⟨by decide, yl⟩ hB'
  · show own_Go p e below K (T72.setTop (mkF m 121 #[.val (.int p1), .val (.int p2), .val (.int p3), .val (.int p4), .val (.int (3 : Int32)), .val (.ref b54), .val (.ref b65), .val (.int (1 : Int32)), .unset, .unset, .unset] [(.int (2 : Int32))]))
    refine own_st (fun t k => XS.istore X72.here hx rfl (hb hby at_121) rfl (l' := #[.val (.int p1), .val (.int p2), .val (.int p3), .val (.int p4), .val (.int (3 : Int32)), .val (.ref b54), .val (.ref b65), .val (.int (1 : Int32)), .val (.int (2 : Int32)), .unset, .unset]) rfl k) ?_
    show own_Go p e below K (T72.setTop (mkF m 123 #[.val (.int p1), .val (.int p2), .val (.int p3), .val (.int p4), .val (.int (3 : Int32)), .val (.ref b54), .val (.ref b65), .val (.int (1 : Int32)), .val (.int (2 : Int32)), .unset, .unset] []))
    refine own_st (fun t k => XS.aload X72.here hx rfl (hb hby at_123) rfl rfl k) ?_
    show own_Go p e below K (T72.setTop (mkF m 125 #[.val (.int p1), .val (.int p2), .val (.int p3), .val (.int p4), .val (.int (3 : Int32)), .val (.ref b54), .val (.ref b65), .val (.int (1 : Int32)), .val (.int (2 : Int32)), .unset, .unset] [(.ref b65)]))
    obtain ⟨cq87, kq87, qv87a, qv87b, qv87c⟩ := isOf hZ e72 p69_0
    obtain ⟨_, _, ⟨T87, L87, k87, n87⟩, -, X87, ⟨Lc87, hQ87, l87, y87, z87⟩, st87⟩ := X72.virtualBack hx (y := (⟨"com/example/ms2rank/ms2rank/candidate/Unpacker", "number", "()I"⟩ : MethodName)) (z := (⟨"com/example/ms2rank/ms2rank/candidate/Unpacker", "number", "()I"⟩ : MethodName)) hown (mvT hZ (hw _ (List.mem_of_getElem? (i := 23) rfl))) (mvT hZ (hw _ (List.mem_of_getElem? (i := 24) rfl))) (notFace_of_selects (args := #[]) (mvT hZ (hw _ (List.mem_of_getElem? (i := 26) rfl)))) (mvT hZ (hw _ (List.mem_of_getElem? (i := 26) rfl))) (mvT hZ (hw _ (List.mem_of_getElem? (i := 25) rfl))) (by decide) (backOf (W := 0) (rm5 l Z a0 hw [] b65 ((0 : Int32)) (b54) (k54) ((3 : Int32)) (ys) (0) (1) T69.heap n0 Z69 g_b65 (Ne.symm ne_b54_b65) p69_0 p69_2 p69_1 f70 (by decide) (by decide) (by decide) (own_ng1 0 (own_neg0 hB (by decide))) hA.2) hZ (hw _ (List.mem_of_getElem? (i := 27) rfl)) (hw _ (List.mem_of_getElem? (i := 3) rfl)) (by decide) (by decide)) qv87a qv87c (g := (mkF m 125 #[.val (.int p1), .val (.int p2), .val (.int p3), .val (.int p4), .val (.int (3 : Int32)), .val (.ref b54), .val (.ref b65), .val (.int (1 : Int32)), .val (.int (2 : Int32)), .unset, .unset] [(.ref b65)])) rfl (by rw [hml]; rfl) (Steps.refl _) (argsL := []) (rest := []) (lenOf pd_0_4 rfl) rfl (by show 2 * 0 + _ ≤ _; exact Nat.le_of_eq rfl) (hb hby at_125) (fun _ _ => ⟨rfl, e72, (by decide : 2 + 0 ≤ _), (by decide : 5 + 0 ≤ _)⟩)
    dsimp only [Pt.U, Pt.locs, Pt.cells, Pt.slots] at X87 l87 y87 z87 st87 hQ87
    obtain ⟨r87, xq_87, rfl, hr87, N87q, Kq87, p87_0, p87_1, p87_2, pp87_0⟩ := hQ87
    have N87 : Fr n0 L87 := by rw [l87]; exact Fr.app N72 N87q
    clear l87
    have y87' : k87 = 2 := y87
    have z87' : n87 = 5 := z87
    clear y87 z87
    subst y87' z87'
    have f88 : Arv Z T87.heap b54 k54 .byte (3 : Int32) (ys.map Value.int) (.int (0 : Int32)) := f70.keep Kq87 (ninS ne_b54_b65 nin0)
    have Z87 : n0 ≤ T87.heap.size := Nat.le_trans Z69 Kq87.1
    refine own_tr st87 ?_
    show own_Go p e below K (T87.setTop (mkF m 128 #[.val (.int p1), .val (.int p2), .val (.int p3), .val (.int p4), .val (.int (3 : Int32)), .val (.ref b54), .val (.ref b65), .val (.int (1 : Int32)), .val (.int (2 : Int32)), .unset, .unset] [(.int r87)]))
    try clear X72 e72 st87 N72 N87q f70
    obtain rfl := (Int32.toInt_inj.mp (pp87_0 : xq_87.toInt = ((1 + 1 : Nat) : Int)) : xq_87 = (2 : Int32))
    show own_Go p e below K (T87.setTop (mkF m 128 #[.val (.int p1), .val (.int p2), .val (.int p3), .val (.int p4), .val (.int (3 : Int32)), .val (.ref b54), .val (.ref b65), .val (.int (1 : Int32)), .val (.int (2 : Int32)), .unset, .unset] [(.int r87)]))
    refine own_st (fun t k => XS.pop X87.here hx rfl (hb hby at_128) rfl rfl k) ?_
    show own_Go p e below K (T87.setTop (mkF m 129 #[.val (.int p1), .val (.int p2), .val (.int p3), .val (.int p4), .val (.int (3 : Int32)), .val (.ref b54), .val (.ref b65), .val (.int (1 : Int32)), .val (.int (2 : Int32)), .unset, .unset] []))
    refine own_st (fun t k => XS.iload X87.here hx rfl (hb hby at_129) rfl k) ?_
    show own_Go p e below K (T87.setTop (mkF m 131 #[.val (.int p1), .val (.int p2), .val (.int p3), .val (.int p4), .val (.int (3 : Int32)), .val (.ref b54), .val (.ref b65), .val (.int (1 : Int32)), .val (.int (2 : Int32)), .unset, .unset] [(.int (1 : Int32))]))
    refine own_st (fun t k => XS.ifNo X87.here hx rfl (hb hby at_131) rfl ((if0 _ _).trans (feq (by decide : ¬ ((1 : Int32) = (0 : Int32)))).1) k) ?_
    show own_Go p e below K (T87.setTop (mkF m 134 #[.val (.int p1), .val (.int p2), .val (.int p3), .val (.int p4), .val (.int (3 : Int32)), .val (.ref b54), .val (.ref b65), .val (.int (1 : Int32)), .val (.int (2 : Int32)), .unset, .unset] []))
    refine own_st (fun t k => XS.aload X87.here hx rfl (hb hby at_134) rfl rfl k) ?_
    show own_Go p e below K (T87.setTop (mkF m 136 #[.val (.int p1), .val (.int p2), .val (.int p3), .val (.int p4), .val (.int (3 : Int32)), .val (.ref b54), .val (.ref b65), .val (.int (1 : Int32)), .val (.int (2 : Int32)), .unset, .unset] [(.ref b65)]))
    obtain ⟨cq89, kq89, qv89a, qv89b, qv89c⟩ := isOf hZ rfl p87_0
    obtain ⟨_, _, ⟨T89, L89, k89, n89⟩, -, X89, ⟨Lc89, hQ89, l89, y89, z89⟩, st89⟩ := X87.virtualBack hx (y := (⟨"com/example/ms2rank/ms2rank/candidate/Unpacker", "atEnd", "()Z"⟩ : MethodName)) (z := (⟨"com/example/ms2rank/ms2rank/candidate/Unpacker", "atEnd", "()Z"⟩ : MethodName)) hown (mvT hZ (hw _ (List.mem_of_getElem? (i := 12) rfl))) (mvT hZ (hw _ (List.mem_of_getElem? (i := 13) rfl))) (notFace_of_selects (args := #[]) (mvT hZ (hw _ (List.mem_of_getElem? (i := 15) rfl)))) (mvT hZ (hw _ (List.mem_of_getElem? (i := 15) rfl))) (mvT hZ (hw _ (List.mem_of_getElem? (i := 14) rfl))) (by decide) (backOf (W := 0) (rm3 l Z a0 hw [] b65 ((2 : Int32)) (b54) (k54) ((3 : Int32)) (ys) T87.heap n0 Z87 p87_2 p87_1 f88) hZ (hw _ (List.mem_of_getElem? (i := 16) rfl)) (hw _ (List.mem_of_getElem? (i := 3) rfl)) (by decide) (by decide)) qv89a qv89c (g := (mkF m 136 #[.val (.int p1), .val (.int p2), .val (.int p3), .val (.int p4), .val (.int (3 : Int32)), .val (.ref b54), .val (.ref b65), .val (.int (1 : Int32)), .val (.int (2 : Int32)), .unset, .unset] [(.ref b65)])) rfl (by rw [hml]; rfl) (Steps.refl _) (argsL := []) (rest := []) (lenOf pd_0_2 rfl) rfl (by show 2 * 0 + _ ≤ _; exact Nat.le_of_eq rfl) (hb hby at_136) (fun _ _ => ⟨rfl, rfl, (by decide : 2 + 0 ≤ _), (by decide : 5 + 0 ≤ _)⟩)
    dsimp only [Pt.U, Pt.locs, Pt.cells, Pt.slots] at X89 l89 y89 z89 st89 hQ89
    obtain ⟨r89, rfl, hr89, N89q, e89⟩ := hQ89
    have N89 : Fr n0 L89 := by rw [l89]; exact Fr.app N87 N89q
    clear l89
    have y89' : k89 = 2 := y89
    have z89' : n89 = 5 := z89
    clear y89 z89
    subst y89' z89'
    refine own_tr st89 ?_
    show own_Go p e below K (T89.setTop (mkF m 139 #[.val (.int p1), .val (.int p2), .val (.int p3), .val (.int p4), .val (.int (3 : Int32)), .val (.ref b54), .val (.ref b65), .val (.int (1 : Int32)), .val (.int (2 : Int32)), .unset, .unset] [(.int r89)]))
    try clear X87 st89 N87 N89q
    refine own_st (fun t k => XS.iload X89.here hx rfl (hb hby at_139) rfl k) ?_
    show own_Go p e below K (T89.setTop (mkF m 141 #[.val (.int p1), .val (.int p2), .val (.int p3), .val (.int p4), .val (.int (3 : Int32)), .val (.ref b54), .val (.ref b65), .val (.int (1 : Int32)), .val (.int (2 : Int32)), .unset, .unset] [(.int (2 : Int32)), (.int r89)]))
    refine own_st (fun t k => XS.iload X89.here hx rfl (hb hby at_141) rfl k) ?_
    show own_Go p e below K (T89.setTop (mkF m 143 #[.val (.int p1), .val (.int p2), .val (.int p3), .val (.int p4), .val (.int (3 : Int32)), .val (.ref b54), .val (.ref b65), .val (.int (1 : Int32)), .val (.int (2 : Int32)), .unset, .unset] [(.int (3 : Int32)), (.int (2 : Int32)), (.int r89)]))
    refine own_st (fun t k => XS.icmpYes X89.here hx rfl (pc0 := 143) (pc' := 150) rfl (hb hby at_143) rfl (feq (by decide : ¬ ((2 : Int32) = (3 : Int32)))).2 (by decide) (by decide) k) ?_
    show own_Go p e below K (T89.setTop (mkF m 150 #[.val (.int p1), .val (.int p2), .val (.int p3), .val (.int p4), .val (.int (3 : Int32)), .val (.ref b54), .val (.ref b65), .val (.int (1 : Int32)), .val (.int (2 : Int32)), .unset, .unset] [(.int r89)]))
    refine own_st (fun t k => XS.iconst X89.here hx rfl (hb hby at_150) k) ?_
    show own_Go p e below K (T89.setTop (mkF m 151 #[.val (.int p1), .val (.int p2), .val (.int p3), .val (.int p4), .val (.int (3 : Int32)), .val (.ref b54), .val (.ref b65), .val (.int (1 : Int32)), .val (.int (2 : Int32)), .unset, .unset] [(.int (0 : Int32)), (.int r89)]))
    refine own_st (fun t k => XS.icmpNo X89.here hx rfl (hb hby at_151) rfl (teq (own_B.zero hr89 (by decide) : r89 = (0 : Int32))).2 k) ?_
    show own_Go p e below K (T89.setTop (mkF m 154 #[.val (.int p1), .val (.int p2), .val (.int p3), .val (.int p4), .val (.int (3 : Int32)), .val (.ref b54), .val (.ref b65), .val (.int (1 : Int32)), .val (.int (2 : Int32)), .unset, .unset] []))
    refine own_st (fun t k => XS.iconst X89.here hx rfl (hb hby at_154) k) ?_
    show own_Go p e below K (T89.setTop (mkF m 155 #[.val (.int p1), .val (.int p2), .val (.int p3), .val (.int p4), .val (.int (3 : Int32)), .val (.ref b54), .val (.ref b65), .val (.int (1 : Int32)), .val (.int (2 : Int32)), .unset, .unset] [(.int (1 : Int32))]))
    refine own_st (fun t k => XS.goto X89.here hx rfl (pc0 := 155) (pc' := 159) rfl (hb hby at_155) (by decide) (by decide) k) ?_
    show own_Go p e below K (T89.setTop (mkF m 159 #[.val (.int p1), .val (.int p2), .val (.int p3), .val (.int p4), .val (.int (3 : Int32)), .val (.ref b54), .val (.ref b65), .val (.int (1 : Int32)), .val (.int (2 : Int32)), .unset, .unset] [(.int (1 : Int32))]))
    refine own_st (fun t k => XS.istore X89.here hx rfl (hb hby at_159) rfl (l' := #[.val (.int p1), .val (.int p2), .val (.int p3), .val (.int p4), .val (.int (3 : Int32)), .val (.ref b54), .val (.ref b65), .val (.int (1 : Int32)), .val (.int (2 : Int32)), .unset, .unset]) rfl k) ?_
    show own_Go p e below K (T89.setTop (mkF m 161 #[.val (.int p1), .val (.int p2), .val (.int p3), .val (.int p4), .val (.int (3 : Int32)), .val (.ref b54), .val (.ref b65), .val (.int (1 : Int32)), .val (.int (2 : Int32)), .unset, .unset] []))
    refine own_st (fun t k => XS.iload X89.here hx rfl (hb hby at_161) rfl k) ?_
    show own_Go p e below K (T89.setTop (mkF m 163 #[.val (.int p1), .val (.int p2), .val (.int p3), .val (.int p4), .val (.int (3 : Int32)), .val (.ref b54), .val (.ref b65), .val (.int (1 : Int32)), .val (.int (2 : Int32)), .unset, .unset] [(.int (2 : Int32))]))
    refine own_st (fun t k => XS.iload X89.here hx rfl (hb hby at_163) rfl k) ?_
    show own_Go p e below K (T89.setTop (mkF m 165 #[.val (.int p1), .val (.int p2), .val (.int p3), .val (.int p4), .val (.int (3 : Int32)), .val (.ref b54), .val (.ref b65), .val (.int (1 : Int32)), .val (.int (2 : Int32)), .unset, .unset] [(.int (3 : Int32)), (.int (2 : Int32))]))
    refine own_st (fun t k => XS.icmpNo X89.here hx rfl (hb hby at_165) rfl (tlt (by decide : (2 : Int32) < (3 : Int32))).2.1 k) ?_
    show own_Go p e below K (T89.setTop (mkF m 168 #[.val (.int p1), .val (.int p2), .val (.int p3), .val (.int p4), .val (.int (3 : Int32)), .val (.ref b54), .val (.ref b65), .val (.int (1 : Int32)), .val (.int (2 : Int32)), .unset, .unset] []))
    refine own_st (fun t k => XS.aload X89.here hx rfl (hb hby at_168) rfl rfl k) ?_
    show own_Go p e below K (T89.setTop (mkF m 170 #[.val (.int p1), .val (.int p2), .val (.int p3), .val (.int p4), .val (.int (3 : Int32)), .val (.ref b54), .val (.ref b65), .val (.int (1 : Int32)), .val (.int (2 : Int32)), .unset, .unset] [(.ref b54)]))
    refine own_st (fun t k => XS.iload X89.here hx rfl (hb hby at_170) rfl k) ?_
    show own_Go p e below K (T89.setTop (mkF m 172 #[.val (.int p1), .val (.int p2), .val (.int p3), .val (.int p4), .val (.int (3 : Int32)), .val (.ref b54), .val (.ref b65), .val (.int (1 : Int32)), .val (.int (2 : Int32)), .unset, .unset] [(.int (2 : Int32)), (.ref b54)]))
    obtain ⟨_, _, ⟨T90, L90, k90, n90⟩, -, X90, ⟨Lc90, hQ90, l90, y90, z90⟩, st90⟩ := Jvm.LawKit.callS X89 hx (y := (⟨"com/example/ms2rank/ms2rank/candidate/UnpackerAtEndPinLaw", "next", "([BI)I"⟩ : MethodName)) hown (mvT hZ (hw _ (List.mem_of_getElem? (i := 19) rfl))) (mvT hZ (hw _ (List.mem_of_getElem? (i := 20) rfl))) (mvT hZ (hw _ (List.mem_of_getElem? (i := 21) rfl))) (mvT hZ (hw _ (List.mem_of_getElem? (i := 22) rfl))) (by decide) (backOf (W := 0) (rm4 l Z a0 hw [] b54 (2 : Int32) (k54) ((3 : Int32)) (ys) T87.heap n0 Z87 f88 (by decide)) hZ (hw _ (List.mem_of_getElem? (i := 22) rfl)) (hw _ (List.mem_of_getElem? (i := 21) rfl)) (by decide) (by decide)) (g := (mkF m 172 #[.val (.int p1), .val (.int p2), .val (.int p3), .val (.int p4), .val (.int (3 : Int32)), .val (.ref b54), .val (.ref b65), .val (.int (1 : Int32)), .val (.int (2 : Int32)), .unset, .unset] [(.int (2 : Int32)), (.ref b54)])) rfl (by rw [hml]; rfl) (argsL := [(.ref b54), (.int (2 : Int32))]) (rest := []) (lenOf pd_0_3 rfl) rfl (by show 2 * 0 + _ ≤ _; exact Nat.le_of_eq rfl) (hb hby at_172) (fun _ _ => ⟨rfl, e89, (by decide : 2 + 0 ≤ _), (by decide : 5 + 0 ≤ _)⟩)
    dsimp only [Pt.U, Pt.locs, Pt.cells, Pt.slots] at X90 l90 y90 z90 st90 hQ90
    obtain ⟨r90, rfl, hr90, N90q, e90⟩ := hQ90
    have N90 : Fr n0 L90 := by rw [l90]; exact Fr.app N89 N90q
    clear l90
    have y90' : k90 = 2 := y90
    have z90' : n90 = 5 := z90
    clear y90 z90
    subst y90' z90'
    refine own_st st90 ?_
    show own_Go p e below K (T90.setTop (mkF m 175 #[.val (.int p1), .val (.int p2), .val (.int p3), .val (.int p4), .val (.int (3 : Int32)), .val (.ref b54), .val (.ref b65), .val (.int (1 : Int32)), .val (.int (2 : Int32)), .unset, .unset] [(.int r90)]))
    try clear X89 e89 st90 N89 N90q
    rcases own_N2 hr90 with ⟨rfl, hA⟩ | ⟨rfl, hB, hA⟩ | ⟨rfl, hB, hB'⟩
    · show own_Go p e below K (T90.setTop (mkF m 175 #[.val (.int p1), .val (.int p2), .val (.int p3), .val (.int p4), .val (.int (3 : Int32)), .val (.ref b54), .val (.ref b65), .val (.int (1 : Int32)), .val (.int (2 : Int32)), .unset, .unset] [(.int (3 : Int32))]))
      refine own_st (fun t k => XS.istore X90.here hx rfl (hb hby at_175) rfl (l' := #[.val (.int p1), .val (.int p2), .val (.int p3), .val (.int p4), .val (.int (3 : Int32)), .val (.ref b54), .val (.ref b65), .val (.int (1 : Int32)), .val (.int (2 : Int32)), .val (.int (3 : Int32)), .unset]) rfl k) ?_
      show own_Go p e below K (T90.setTop (mkF m 177 #[.val (.int p1), .val (.int p2), .val (.int p3), .val (.int p4), .val (.int (3 : Int32)), .val (.ref b54), .val (.ref b65), .val (.int (1 : Int32)), .val (.int (2 : Int32)), .val (.int (3 : Int32)), .unset] []))
      refine own_st (fun t k => XS.aload X90.here hx rfl (hb hby at_177) rfl rfl k) ?_
      show own_Go p e below K (T90.setTop (mkF m 179 #[.val (.int p1), .val (.int p2), .val (.int p3), .val (.int p4), .val (.int (3 : Int32)), .val (.ref b54), .val (.ref b65), .val (.int (1 : Int32)), .val (.int (2 : Int32)), .val (.int (3 : Int32)), .unset] [(.ref b65)]))
      obtain ⟨cq91, kq91, qv91a, qv91b, qv91c⟩ := isOf hZ e90 p87_0
      obtain ⟨_, _, ⟨T91, L91, k91, n91⟩, -, X91, ⟨Lc91, hQ91, l91, y91, z91⟩, st91⟩ := X90.virtualBack hx (y := (⟨"com/example/ms2rank/ms2rank/candidate/Unpacker", "number", "()I"⟩ : MethodName)) (z := (⟨"com/example/ms2rank/ms2rank/candidate/Unpacker", "number", "()I"⟩ : MethodName)) hown (mvT hZ (hw _ (List.mem_of_getElem? (i := 23) rfl))) (mvT hZ (hw _ (List.mem_of_getElem? (i := 24) rfl))) (notFace_of_selects (args := #[]) (mvT hZ (hw _ (List.mem_of_getElem? (i := 26) rfl)))) (mvT hZ (hw _ (List.mem_of_getElem? (i := 26) rfl))) (mvT hZ (hw _ (List.mem_of_getElem? (i := 25) rfl))) (by decide) (backOf (W := 0) (rm5 l Z a0 hw [] b65 ((2 : Int32)) (b54) (k54) ((3 : Int32)) (ys) (2) (2) T87.heap n0 Z87 g_b65 (Ne.symm ne_b54_b65) p87_0 p87_2 p87_1 f88 (by decide) (by decide) (by decide) (own_ng0 2) yl) hZ (hw _ (List.mem_of_getElem? (i := 27) rfl)) (hw _ (List.mem_of_getElem? (i := 3) rfl)) (by decide) (by decide)) qv91a qv91c (g := (mkF m 179 #[.val (.int p1), .val (.int p2), .val (.int p3), .val (.int p4), .val (.int (3 : Int32)), .val (.ref b54), .val (.ref b65), .val (.int (1 : Int32)), .val (.int (2 : Int32)), .val (.int (3 : Int32)), .unset] [(.ref b65)])) rfl (by rw [hml]; rfl) (Steps.refl _) (argsL := []) (rest := []) (lenOf pd_0_4 rfl) rfl (by show 2 * 0 + _ ≤ _; exact Nat.le_of_eq rfl) (hb hby at_179) (fun _ _ => ⟨rfl, e90, (by decide : 2 + 0 ≤ _), (by decide : 5 + 0 ≤ _)⟩)
      dsimp only [Pt.U, Pt.locs, Pt.cells, Pt.slots] at X91 l91 y91 z91 st91 hQ91
      obtain ⟨r91, xq_91, rfl, hr91, N91q, Kq91, p91_0, p91_1, p91_2, pp91_0⟩ := hQ91
      have N91 : Fr n0 L91 := by rw [l91]; exact Fr.app N90 N91q
      clear l91
      have y91' : k91 = 2 := y91
      have z91' : n91 = 5 := z91
      clear y91 z91
      subst y91' z91'
      have f92 : Arv Z T91.heap b54 k54 .byte (3 : Int32) (ys.map Value.int) (.int (0 : Int32)) := f88.keep Kq91 (ninS ne_b54_b65 nin0)
      have Z91 : n0 ≤ T91.heap.size := Nat.le_trans Z87 Kq91.1
      refine own_tr st91 ?_
      show own_Go p e below K (T91.setTop (mkF m 182 #[.val (.int p1), .val (.int p2), .val (.int p3), .val (.int p4), .val (.int (3 : Int32)), .val (.ref b54), .val (.ref b65), .val (.int (1 : Int32)), .val (.int (2 : Int32)), .val (.int (3 : Int32)), .unset] [(.int r91)]))
      try clear X90 e90 st91 N90 N91q f88
      obtain rfl := (Int32.toInt_inj.mp (pp91_0 : xq_91.toInt = ((2 + 1 : Nat) : Int)) : xq_91 = (3 : Int32))
      show own_Go p e below K (T91.setTop (mkF m 182 #[.val (.int p1), .val (.int p2), .val (.int p3), .val (.int p4), .val (.int (3 : Int32)), .val (.ref b54), .val (.ref b65), .val (.int (1 : Int32)), .val (.int (2 : Int32)), .val (.int (3 : Int32)), .unset] [(.int r91)]))
      refine own_st (fun t k => XS.pop X91.here hx rfl (hb hby at_182) rfl rfl k) ?_
      show own_Go p e below K (T91.setTop (mkF m 183 #[.val (.int p1), .val (.int p2), .val (.int p3), .val (.int p4), .val (.int (3 : Int32)), .val (.ref b54), .val (.ref b65), .val (.int (1 : Int32)), .val (.int (2 : Int32)), .val (.int (3 : Int32)), .unset] []))
      refine own_st (fun t k => XS.iload X91.here hx rfl (hb hby at_183) rfl k) ?_
      show own_Go p e below K (T91.setTop (mkF m 185 #[.val (.int p1), .val (.int p2), .val (.int p3), .val (.int p4), .val (.int (3 : Int32)), .val (.ref b54), .val (.ref b65), .val (.int (1 : Int32)), .val (.int (2 : Int32)), .val (.int (3 : Int32)), .unset] [(.int (1 : Int32))]))
      refine own_st (fun t k => XS.ifNo X91.here hx rfl (hb hby at_185) rfl ((if0 _ _).trans (feq (by decide : ¬ ((1 : Int32) = (0 : Int32)))).1) k) ?_
      show own_Go p e below K (T91.setTop (mkF m 188 #[.val (.int p1), .val (.int p2), .val (.int p3), .val (.int p4), .val (.int (3 : Int32)), .val (.ref b54), .val (.ref b65), .val (.int (1 : Int32)), .val (.int (2 : Int32)), .val (.int (3 : Int32)), .unset] []))
      refine own_st (fun t k => XS.aload X91.here hx rfl (hb hby at_188) rfl rfl k) ?_
      show own_Go p e below K (T91.setTop (mkF m 190 #[.val (.int p1), .val (.int p2), .val (.int p3), .val (.int p4), .val (.int (3 : Int32)), .val (.ref b54), .val (.ref b65), .val (.int (1 : Int32)), .val (.int (2 : Int32)), .val (.int (3 : Int32)), .unset] [(.ref b65)]))
      obtain ⟨cq93, kq93, qv93a, qv93b, qv93c⟩ := isOf hZ rfl p91_0
      obtain ⟨_, _, ⟨T93, L93, k93, n93⟩, -, X93, ⟨Lc93, hQ93, l93, y93, z93⟩, st93⟩ := X91.virtualBack hx (y := (⟨"com/example/ms2rank/ms2rank/candidate/Unpacker", "atEnd", "()Z"⟩ : MethodName)) (z := (⟨"com/example/ms2rank/ms2rank/candidate/Unpacker", "atEnd", "()Z"⟩ : MethodName)) hown (mvT hZ (hw _ (List.mem_of_getElem? (i := 12) rfl))) (mvT hZ (hw _ (List.mem_of_getElem? (i := 13) rfl))) (notFace_of_selects (args := #[]) (mvT hZ (hw _ (List.mem_of_getElem? (i := 15) rfl)))) (mvT hZ (hw _ (List.mem_of_getElem? (i := 15) rfl))) (mvT hZ (hw _ (List.mem_of_getElem? (i := 14) rfl))) (by decide) (backOf (W := 0) (rm3 l Z a0 hw [] b65 ((3 : Int32)) (b54) (k54) ((3 : Int32)) (ys) T91.heap n0 Z91 p91_2 p91_1 f92) hZ (hw _ (List.mem_of_getElem? (i := 16) rfl)) (hw _ (List.mem_of_getElem? (i := 3) rfl)) (by decide) (by decide)) qv93a qv93c (g := (mkF m 190 #[.val (.int p1), .val (.int p2), .val (.int p3), .val (.int p4), .val (.int (3 : Int32)), .val (.ref b54), .val (.ref b65), .val (.int (1 : Int32)), .val (.int (2 : Int32)), .val (.int (3 : Int32)), .unset] [(.ref b65)])) rfl (by rw [hml]; rfl) (Steps.refl _) (argsL := []) (rest := []) (lenOf pd_0_2 rfl) rfl (by show 2 * 0 + _ ≤ _; exact Nat.le_of_eq rfl) (hb hby at_190) (fun _ _ => ⟨rfl, rfl, (by decide : 2 + 0 ≤ _), (by decide : 5 + 0 ≤ _)⟩)
      dsimp only [Pt.U, Pt.locs, Pt.cells, Pt.slots] at X93 l93 y93 z93 st93 hQ93
      obtain ⟨r93, rfl, hr93, N93q, e93⟩ := hQ93
      have N93 : Fr n0 L93 := by rw [l93]; exact Fr.app N91 N93q
      clear l93
      have y93' : k93 = 2 := y93
      have z93' : n93 = 5 := z93
      clear y93 z93
      subst y93' z93'
      refine own_tr st93 ?_
      show own_Go p e below K (T93.setTop (mkF m 193 #[.val (.int p1), .val (.int p2), .val (.int p3), .val (.int p4), .val (.int (3 : Int32)), .val (.ref b54), .val (.ref b65), .val (.int (1 : Int32)), .val (.int (2 : Int32)), .val (.int (3 : Int32)), .unset] [(.int r93)]))
      try clear X91 st93 N91 N93q
      refine own_st (fun t k => XS.iload X93.here hx rfl (hb hby at_193) rfl k) ?_
      show own_Go p e below K (T93.setTop (mkF m 195 #[.val (.int p1), .val (.int p2), .val (.int p3), .val (.int p4), .val (.int (3 : Int32)), .val (.ref b54), .val (.ref b65), .val (.int (1 : Int32)), .val (.int (2 : Int32)), .val (.int (3 : Int32)), .unset] [(.int (3 : Int32)), (.int r93)]))
      refine own_st (fun t k => XS.iload X93.here hx rfl (hb hby at_195) rfl k) ?_
      show own_Go p e below K (T93.setTop (mkF m 197 #[.val (.int p1), .val (.int p2), .val (.int p3), .val (.int p4), .val (.int (3 : Int32)), .val (.ref b54), .val (.ref b65), .val (.int (1 : Int32)), .val (.int (2 : Int32)), .val (.int (3 : Int32)), .unset] [(.int (3 : Int32)), (.int (3 : Int32)), (.int r93)]))
      refine own_st (fun t k => XS.icmpNo X93.here hx rfl (hb hby at_197) rfl (teq (by decide : (3 : Int32) = (3 : Int32))).2 k) ?_
      show own_Go p e below K (T93.setTop (mkF m 200 #[.val (.int p1), .val (.int p2), .val (.int p3), .val (.int p4), .val (.int (3 : Int32)), .val (.ref b54), .val (.ref b65), .val (.int (1 : Int32)), .val (.int (2 : Int32)), .val (.int (3 : Int32)), .unset] [(.int r93)]))
      refine own_st (fun t k => XS.iconst X93.here hx rfl (hb hby at_200) k) ?_
      show own_Go p e below K (T93.setTop (mkF m 201 #[.val (.int p1), .val (.int p2), .val (.int p3), .val (.int p4), .val (.int (3 : Int32)), .val (.ref b54), .val (.ref b65), .val (.int (1 : Int32)), .val (.int (2 : Int32)), .val (.int (3 : Int32)), .unset] [(.int (1 : Int32)), (.int r93)]))
      refine own_st (fun t k => XS.goto X93.here hx rfl (pc0 := 201) (pc' := 205) rfl (hb hby at_201) (by decide) (by decide) k) ?_
      show own_Go p e below K (T93.setTop (mkF m 205 #[.val (.int p1), .val (.int p2), .val (.int p3), .val (.int p4), .val (.int (3 : Int32)), .val (.ref b54), .val (.ref b65), .val (.int (1 : Int32)), .val (.int (2 : Int32)), .val (.int (3 : Int32)), .unset] [(.int (1 : Int32)), (.int r93)]))
      refine own_st (fun t k => XS.icmpNo X93.here hx rfl (hb hby at_205) rfl (teq (own_B.one hr93 (by decide) : r93 = (1 : Int32))).2 k) ?_
      show own_Go p e below K (T93.setTop (mkF m 208 #[.val (.int p1), .val (.int p2), .val (.int p3), .val (.int p4), .val (.int (3 : Int32)), .val (.ref b54), .val (.ref b65), .val (.int (1 : Int32)), .val (.int (2 : Int32)), .val (.int (3 : Int32)), .unset] []))
      refine own_st (fun t k => XS.iconst X93.here hx rfl (hb hby at_208) k) ?_
      show own_Go p e below K (T93.setTop (mkF m 209 #[.val (.int p1), .val (.int p2), .val (.int p3), .val (.int p4), .val (.int (3 : Int32)), .val (.ref b54), .val (.ref b65), .val (.int (1 : Int32)), .val (.int (2 : Int32)), .val (.int (3 : Int32)), .unset] [(.int (1 : Int32))]))
      refine own_st (fun t k => XS.goto X93.here hx rfl (pc0 := 209) (pc' := 213) rfl (hb hby at_209) (by decide) (by decide) k) ?_
      show own_Go p e below K (T93.setTop (mkF m 213 #[.val (.int p1), .val (.int p2), .val (.int p3), .val (.int p4), .val (.int (3 : Int32)), .val (.ref b54), .val (.ref b65), .val (.int (1 : Int32)), .val (.int (2 : Int32)), .val (.int (3 : Int32)), .unset] [(.int (1 : Int32))]))
      refine own_st (fun t k => XS.istore X93.here hx rfl (hb hby at_213) rfl (l' := #[.val (.int p1), .val (.int p2), .val (.int p3), .val (.int p4), .val (.int (3 : Int32)), .val (.ref b54), .val (.ref b65), .val (.int (1 : Int32)), .val (.int (2 : Int32)), .val (.int (3 : Int32)), .unset]) rfl k) ?_
      show own_Go p e below K (T93.setTop (mkF m 215 #[.val (.int p1), .val (.int p2), .val (.int p3), .val (.int p4), .val (.int (3 : Int32)), .val (.ref b54), .val (.ref b65), .val (.int (1 : Int32)), .val (.int (2 : Int32)), .val (.int (3 : Int32)), .unset] []))
      refine own_st (fun t k => XS.iload X93.here hx rfl (hb hby at_215) rfl k) ?_
      show own_Go p e below K (T93.setTop (mkF m 217 #[.val (.int p1), .val (.int p2), .val (.int p3), .val (.int p4), .val (.int (3 : Int32)), .val (.ref b54), .val (.ref b65), .val (.int (1 : Int32)), .val (.int (2 : Int32)), .val (.int (3 : Int32)), .unset] [(.int (3 : Int32))]))
      refine own_st (fun t k => XS.iload X93.here hx rfl (hb hby at_217) rfl k) ?_
      show own_Go p e below K (T93.setTop (mkF m 219 #[.val (.int p1), .val (.int p2), .val (.int p3), .val (.int p4), .val (.int (3 : Int32)), .val (.ref b54), .val (.ref b65), .val (.int (1 : Int32)), .val (.int (2 : Int32)), .val (.int (3 : Int32)), .unset] [(.int (3 : Int32)), (.int (3 : Int32))]))
      refine own_st (fun t k => XS.icmpYes X93.here hx rfl (pc0 := 219) (pc' := 269) rfl (hb hby at_219) rfl (flt (by decide : ¬ ((3 : Int32) < (3 : Int32)))).2.1 (by decide) (by decide) k) ?_
      show own_Go p e below K (T93.setTop (mkF m 269 #[.val (.int p1), .val (.int p2), .val (.int p3), .val (.int p4), .val (.int (3 : Int32)), .val (.ref b54), .val (.ref b65), .val (.int (1 : Int32)), .val (.int (2 : Int32)), .val (.int (3 : Int32)), .unset] []))
      refine own_st (fun t k => XS.iload X93.here hx rfl (hb hby at_269) rfl k) ?_
      show own_Go p e below K (T93.setTop (mkF m 271 #[.val (.int p1), .val (.int p2), .val (.int p3), .val (.int p4), .val (.int (3 : Int32)), .val (.ref b54), .val (.ref b65), .val (.int (1 : Int32)), .val (.int (2 : Int32)), .val (.int (3 : Int32)), .unset] [(.int (1 : Int32))]))
      obtain ⟨fs, hr, hrun, hended, hW, hsame⟩ := X93.leave (v := some (.int (nar .boolean (1 : Int32)))) (fun h => by rw [Bd.returns] at h; cases h)
      refine ⟨_, retN X93 hx (t := .boolean) Bd.returns (by simp) (hb hby at_271) hr, fin _ _ _ hrun hended ?_ ⟨⟨_, rfl⟩, hW, hsame.mono (by decide) (by decide)⟩⟩
      show Q0 Z p1 p2 p3 p4 h0 n0 _ T93.heap _
      rw [e93]
      exact ⟨rfl, N93⟩
    · exact absurd hA.1 (by decide)
    exact absurd ⟨by decide, yl⟩ hB
  show own_Go p e below K (T72.setTop (mkF m 121 #[.val (.int p1), .val (.int p2), .val (.int p3), .val (.int p4), .val (.int (3 : Int32)), .val (.ref b54), .val (.ref b65), .val (.int (1 : Int32)), .unset, .unset, .unset] [(.int (3 : Int32))]))
  refine own_st (fun t k => XS.istore X72.here hx rfl (hb hby at_121) rfl (l' := #[.val (.int p1), .val (.int p2), .val (.int p3), .val (.int p4), .val (.int (3 : Int32)), .val (.ref b54), .val (.ref b65), .val (.int (1 : Int32)), .val (.int (3 : Int32)), .unset, .unset]) rfl k) ?_
  show own_Go p e below K (T72.setTop (mkF m 123 #[.val (.int p1), .val (.int p2), .val (.int p3), .val (.int p4), .val (.int (3 : Int32)), .val (.ref b54), .val (.ref b65), .val (.int (1 : Int32)), .val (.int (3 : Int32)), .unset, .unset] []))
  refine own_st (fun t k => XS.aload X72.here hx rfl (hb hby at_123) rfl rfl k) ?_
  show own_Go p e below K (T72.setTop (mkF m 125 #[.val (.int p1), .val (.int p2), .val (.int p3), .val (.int p4), .val (.int (3 : Int32)), .val (.ref b54), .val (.ref b65), .val (.int (1 : Int32)), .val (.int (3 : Int32)), .unset, .unset] [(.ref b65)]))
  obtain ⟨cq94, kq94, qv94a, qv94b, qv94c⟩ := isOf hZ e72 p69_0
  obtain ⟨_, _, ⟨T94, L94, k94, n94⟩, -, X94, ⟨Lc94, hQ94, l94, y94, z94⟩, st94⟩ := X72.virtualBack hx (y := (⟨"com/example/ms2rank/ms2rank/candidate/Unpacker", "number", "()I"⟩ : MethodName)) (z := (⟨"com/example/ms2rank/ms2rank/candidate/Unpacker", "number", "()I"⟩ : MethodName)) hown (mvT hZ (hw _ (List.mem_of_getElem? (i := 23) rfl))) (mvT hZ (hw _ (List.mem_of_getElem? (i := 24) rfl))) (notFace_of_selects (args := #[]) (mvT hZ (hw _ (List.mem_of_getElem? (i := 26) rfl)))) (mvT hZ (hw _ (List.mem_of_getElem? (i := 26) rfl))) (mvT hZ (hw _ (List.mem_of_getElem? (i := 25) rfl))) (by decide) (backOf (W := 0) (rm5 l Z a0 hw [] b65 ((0 : Int32)) (b54) (k54) ((3 : Int32)) (ys) (0) (2) T69.heap n0 Z69 g_b65 (Ne.symm ne_b54_b65) p69_0 p69_2 p69_1 f70 (by decide) (by decide) (by decide) (own_ng2 0 (own_neg0 hB (by decide)) (own_neg1 hB' (by decide))) yl) hZ (hw _ (List.mem_of_getElem? (i := 27) rfl)) (hw _ (List.mem_of_getElem? (i := 3) rfl)) (by decide) (by decide)) qv94a qv94c (g := (mkF m 125 #[.val (.int p1), .val (.int p2), .val (.int p3), .val (.int p4), .val (.int (3 : Int32)), .val (.ref b54), .val (.ref b65), .val (.int (1 : Int32)), .val (.int (3 : Int32)), .unset, .unset] [(.ref b65)])) rfl (by rw [hml]; rfl) (Steps.refl _) (argsL := []) (rest := []) (lenOf pd_0_4 rfl) rfl (by show 2 * 0 + _ ≤ _; exact Nat.le_of_eq rfl) (hb hby at_125) (fun _ _ => ⟨rfl, e72, (by decide : 2 + 0 ≤ _), (by decide : 5 + 0 ≤ _)⟩)
  dsimp only [Pt.U, Pt.locs, Pt.cells, Pt.slots] at X94 l94 y94 z94 st94 hQ94
  obtain ⟨r94, xq_94, rfl, hr94, N94q, Kq94, p94_0, p94_1, p94_2, pp94_0⟩ := hQ94
  have N94 : Fr n0 L94 := by rw [l94]; exact Fr.app N72 N94q
  clear l94
  have y94' : k94 = 2 := y94
  have z94' : n94 = 5 := z94
  clear y94 z94
  subst y94' z94'
  have f95 : Arv Z T94.heap b54 k54 .byte (3 : Int32) (ys.map Value.int) (.int (0 : Int32)) := f70.keep Kq94 (ninS ne_b54_b65 nin0)
  have Z94 : n0 ≤ T94.heap.size := Nat.le_trans Z69 Kq94.1
  refine own_tr st94 ?_
  show own_Go p e below K (T94.setTop (mkF m 128 #[.val (.int p1), .val (.int p2), .val (.int p3), .val (.int p4), .val (.int (3 : Int32)), .val (.ref b54), .val (.ref b65), .val (.int (1 : Int32)), .val (.int (3 : Int32)), .unset, .unset] [(.int r94)]))
  try clear X72 e72 st94 N72 N94q f70
  obtain rfl := (Int32.toInt_inj.mp (pp94_0 : xq_94.toInt = ((2 + 1 : Nat) : Int)) : xq_94 = (3 : Int32))
  show own_Go p e below K (T94.setTop (mkF m 128 #[.val (.int p1), .val (.int p2), .val (.int p3), .val (.int p4), .val (.int (3 : Int32)), .val (.ref b54), .val (.ref b65), .val (.int (1 : Int32)), .val (.int (3 : Int32)), .unset, .unset] [(.int r94)]))
  refine own_st (fun t k => XS.pop X94.here hx rfl (hb hby at_128) rfl rfl k) ?_
  show own_Go p e below K (T94.setTop (mkF m 129 #[.val (.int p1), .val (.int p2), .val (.int p3), .val (.int p4), .val (.int (3 : Int32)), .val (.ref b54), .val (.ref b65), .val (.int (1 : Int32)), .val (.int (3 : Int32)), .unset, .unset] []))
  refine own_st (fun t k => XS.iload X94.here hx rfl (hb hby at_129) rfl k) ?_
  show own_Go p e below K (T94.setTop (mkF m 131 #[.val (.int p1), .val (.int p2), .val (.int p3), .val (.int p4), .val (.int (3 : Int32)), .val (.ref b54), .val (.ref b65), .val (.int (1 : Int32)), .val (.int (3 : Int32)), .unset, .unset] [(.int (1 : Int32))]))
  refine own_st (fun t k => XS.ifNo X94.here hx rfl (hb hby at_131) rfl ((if0 _ _).trans (feq (by decide : ¬ ((1 : Int32) = (0 : Int32)))).1) k) ?_
  show own_Go p e below K (T94.setTop (mkF m 134 #[.val (.int p1), .val (.int p2), .val (.int p3), .val (.int p4), .val (.int (3 : Int32)), .val (.ref b54), .val (.ref b65), .val (.int (1 : Int32)), .val (.int (3 : Int32)), .unset, .unset] []))
  refine own_st (fun t k => XS.aload X94.here hx rfl (hb hby at_134) rfl rfl k) ?_
  show own_Go p e below K (T94.setTop (mkF m 136 #[.val (.int p1), .val (.int p2), .val (.int p3), .val (.int p4), .val (.int (3 : Int32)), .val (.ref b54), .val (.ref b65), .val (.int (1 : Int32)), .val (.int (3 : Int32)), .unset, .unset] [(.ref b65)]))
  obtain ⟨cq96, kq96, qv96a, qv96b, qv96c⟩ := isOf hZ rfl p94_0
  obtain ⟨_, _, ⟨T96, L96, k96, n96⟩, -, X96, ⟨Lc96, hQ96, l96, y96, z96⟩, st96⟩ := X94.virtualBack hx (y := (⟨"com/example/ms2rank/ms2rank/candidate/Unpacker", "atEnd", "()Z"⟩ : MethodName)) (z := (⟨"com/example/ms2rank/ms2rank/candidate/Unpacker", "atEnd", "()Z"⟩ : MethodName)) hown (mvT hZ (hw _ (List.mem_of_getElem? (i := 12) rfl))) (mvT hZ (hw _ (List.mem_of_getElem? (i := 13) rfl))) (notFace_of_selects (args := #[]) (mvT hZ (hw _ (List.mem_of_getElem? (i := 15) rfl)))) (mvT hZ (hw _ (List.mem_of_getElem? (i := 15) rfl))) (mvT hZ (hw _ (List.mem_of_getElem? (i := 14) rfl))) (by decide) (backOf (W := 0) (rm3 l Z a0 hw [] b65 ((3 : Int32)) (b54) (k54) ((3 : Int32)) (ys) T94.heap n0 Z94 p94_2 p94_1 f95) hZ (hw _ (List.mem_of_getElem? (i := 16) rfl)) (hw _ (List.mem_of_getElem? (i := 3) rfl)) (by decide) (by decide)) qv96a qv96c (g := (mkF m 136 #[.val (.int p1), .val (.int p2), .val (.int p3), .val (.int p4), .val (.int (3 : Int32)), .val (.ref b54), .val (.ref b65), .val (.int (1 : Int32)), .val (.int (3 : Int32)), .unset, .unset] [(.ref b65)])) rfl (by rw [hml]; rfl) (Steps.refl _) (argsL := []) (rest := []) (lenOf pd_0_2 rfl) rfl (by show 2 * 0 + _ ≤ _; exact Nat.le_of_eq rfl) (hb hby at_136) (fun _ _ => ⟨rfl, rfl, (by decide : 2 + 0 ≤ _), (by decide : 5 + 0 ≤ _)⟩)
  dsimp only [Pt.U, Pt.locs, Pt.cells, Pt.slots] at X96 l96 y96 z96 st96 hQ96
  obtain ⟨r96, rfl, hr96, N96q, e96⟩ := hQ96
  have N96 : Fr n0 L96 := by rw [l96]; exact Fr.app N94 N96q
  clear l96
  have y96' : k96 = 2 := y96
  have z96' : n96 = 5 := z96
  clear y96 z96
  subst y96' z96'
  refine own_tr st96 ?_
  show own_Go p e below K (T96.setTop (mkF m 139 #[.val (.int p1), .val (.int p2), .val (.int p3), .val (.int p4), .val (.int (3 : Int32)), .val (.ref b54), .val (.ref b65), .val (.int (1 : Int32)), .val (.int (3 : Int32)), .unset, .unset] [(.int r96)]))
  try clear X94 st96 N94 N96q
  refine own_st (fun t k => XS.iload X96.here hx rfl (hb hby at_139) rfl k) ?_
  show own_Go p e below K (T96.setTop (mkF m 141 #[.val (.int p1), .val (.int p2), .val (.int p3), .val (.int p4), .val (.int (3 : Int32)), .val (.ref b54), .val (.ref b65), .val (.int (1 : Int32)), .val (.int (3 : Int32)), .unset, .unset] [(.int (3 : Int32)), (.int r96)]))
  refine own_st (fun t k => XS.iload X96.here hx rfl (hb hby at_141) rfl k) ?_
  show own_Go p e below K (T96.setTop (mkF m 143 #[.val (.int p1), .val (.int p2), .val (.int p3), .val (.int p4), .val (.int (3 : Int32)), .val (.ref b54), .val (.ref b65), .val (.int (1 : Int32)), .val (.int (3 : Int32)), .unset, .unset] [(.int (3 : Int32)), (.int (3 : Int32)), (.int r96)]))
  refine own_st (fun t k => XS.icmpNo X96.here hx rfl (hb hby at_143) rfl (teq (by decide : (3 : Int32) = (3 : Int32))).2 k) ?_
  show own_Go p e below K (T96.setTop (mkF m 146 #[.val (.int p1), .val (.int p2), .val (.int p3), .val (.int p4), .val (.int (3 : Int32)), .val (.ref b54), .val (.ref b65), .val (.int (1 : Int32)), .val (.int (3 : Int32)), .unset, .unset] [(.int r96)]))
  refine own_st (fun t k => XS.iconst X96.here hx rfl (hb hby at_146) k) ?_
  show own_Go p e below K (T96.setTop (mkF m 147 #[.val (.int p1), .val (.int p2), .val (.int p3), .val (.int p4), .val (.int (3 : Int32)), .val (.ref b54), .val (.ref b65), .val (.int (1 : Int32)), .val (.int (3 : Int32)), .unset, .unset] [(.int (1 : Int32)), (.int r96)]))
  refine own_st (fun t k => XS.goto X96.here hx rfl (pc0 := 147) (pc' := 151) rfl (hb hby at_147) (by decide) (by decide) k) ?_
  show own_Go p e below K (T96.setTop (mkF m 151 #[.val (.int p1), .val (.int p2), .val (.int p3), .val (.int p4), .val (.int (3 : Int32)), .val (.ref b54), .val (.ref b65), .val (.int (1 : Int32)), .val (.int (3 : Int32)), .unset, .unset] [(.int (1 : Int32)), (.int r96)]))
  refine own_st (fun t k => XS.icmpNo X96.here hx rfl (hb hby at_151) rfl (teq (own_B.one hr96 (by decide) : r96 = (1 : Int32))).2 k) ?_
  show own_Go p e below K (T96.setTop (mkF m 154 #[.val (.int p1), .val (.int p2), .val (.int p3), .val (.int p4), .val (.int (3 : Int32)), .val (.ref b54), .val (.ref b65), .val (.int (1 : Int32)), .val (.int (3 : Int32)), .unset, .unset] []))
  refine own_st (fun t k => XS.iconst X96.here hx rfl (hb hby at_154) k) ?_
  show own_Go p e below K (T96.setTop (mkF m 155 #[.val (.int p1), .val (.int p2), .val (.int p3), .val (.int p4), .val (.int (3 : Int32)), .val (.ref b54), .val (.ref b65), .val (.int (1 : Int32)), .val (.int (3 : Int32)), .unset, .unset] [(.int (1 : Int32))]))
  refine own_st (fun t k => XS.goto X96.here hx rfl (pc0 := 155) (pc' := 159) rfl (hb hby at_155) (by decide) (by decide) k) ?_
  show own_Go p e below K (T96.setTop (mkF m 159 #[.val (.int p1), .val (.int p2), .val (.int p3), .val (.int p4), .val (.int (3 : Int32)), .val (.ref b54), .val (.ref b65), .val (.int (1 : Int32)), .val (.int (3 : Int32)), .unset, .unset] [(.int (1 : Int32))]))
  refine own_st (fun t k => XS.istore X96.here hx rfl (hb hby at_159) rfl (l' := #[.val (.int p1), .val (.int p2), .val (.int p3), .val (.int p4), .val (.int (3 : Int32)), .val (.ref b54), .val (.ref b65), .val (.int (1 : Int32)), .val (.int (3 : Int32)), .unset, .unset]) rfl k) ?_
  show own_Go p e below K (T96.setTop (mkF m 161 #[.val (.int p1), .val (.int p2), .val (.int p3), .val (.int p4), .val (.int (3 : Int32)), .val (.ref b54), .val (.ref b65), .val (.int (1 : Int32)), .val (.int (3 : Int32)), .unset, .unset] []))
  refine own_st (fun t k => XS.iload X96.here hx rfl (hb hby at_161) rfl k) ?_
  show own_Go p e below K (T96.setTop (mkF m 163 #[.val (.int p1), .val (.int p2), .val (.int p3), .val (.int p4), .val (.int (3 : Int32)), .val (.ref b54), .val (.ref b65), .val (.int (1 : Int32)), .val (.int (3 : Int32)), .unset, .unset] [(.int (3 : Int32))]))
  refine own_st (fun t k => XS.iload X96.here hx rfl (hb hby at_163) rfl k) ?_
  show own_Go p e below K (T96.setTop (mkF m 165 #[.val (.int p1), .val (.int p2), .val (.int p3), .val (.int p4), .val (.int (3 : Int32)), .val (.ref b54), .val (.ref b65), .val (.int (1 : Int32)), .val (.int (3 : Int32)), .unset, .unset] [(.int (3 : Int32)), (.int (3 : Int32))]))
  refine own_st (fun t k => XS.icmpYes X96.here hx rfl (pc0 := 165) (pc' := 269) rfl (hb hby at_165) rfl (flt (by decide : ¬ ((3 : Int32) < (3 : Int32)))).2.1 (by decide) (by decide) k) ?_
  show own_Go p e below K (T96.setTop (mkF m 269 #[.val (.int p1), .val (.int p2), .val (.int p3), .val (.int p4), .val (.int (3 : Int32)), .val (.ref b54), .val (.ref b65), .val (.int (1 : Int32)), .val (.int (3 : Int32)), .unset, .unset] []))
  refine own_st (fun t k => XS.iload X96.here hx rfl (hb hby at_269) rfl k) ?_
  show own_Go p e below K (T96.setTop (mkF m 271 #[.val (.int p1), .val (.int p2), .val (.int p3), .val (.int p4), .val (.int (3 : Int32)), .val (.ref b54), .val (.ref b65), .val (.int (1 : Int32)), .val (.int (3 : Int32)), .unset, .unset] [(.int (1 : Int32))]))
  obtain ⟨fs, hr, hrun, hended, hW, hsame⟩ := X96.leave (v := some (.int (nar .boolean (1 : Int32)))) (fun h => by rw [Bd.returns] at h; cases h)
  refine ⟨_, retN X96 hx (t := .boolean) Bd.returns (by simp) (hb hby at_271) hr, fin _ _ _ hrun hended ?_ ⟨⟨_, rfl⟩, hW, hsame.mono (by decide) (by decide)⟩⟩
  show Q0 Z p1 p2 p3 p4 h0 n0 _ T96.heap _
  rw [e96]
  exact ⟨rfl, N96⟩
set_option maxRecDepth 65536 in
set_option maxHeartbeats 40000000 in
theorem comes_1 {Post : Tables → Env → Array Value → State → Outcome → State → Prop} (hpost : ∀ tb e args s v u, (limb_1_1.after args s (.returned v) u = true ∧ limb_1_2.after args s (.returned v) u = true ∧ True) → FrameEnd s (.returned v) u (Jvm.fieldLocs frame_1_writes args s ++ Jvm.arrayLocs frame_1_arrays args s ++ Jvm.staticLocs frame_1_statics s) 16 128 → Post tb e args s (.returned v) u) :
    ArmFor flags0 classFile x code maxLocals ret World_1 tables_1 room_1 Calls_1 rest_1 Pre_1 Post := by
  intro l hfl _ _ p e ha hc hk s m args below hf hA hF happ hP
  obtain ⟨hcalls, hrest, hpre⟩ := hP
  obtain ⟨-, -, -, hnamed, -, -, -, hat⟩ := (Spec.applies_iff hf).mp happ
  obtain ⟨hg, hn⟩ := and_e (Cond.before_iff.mp (show (Jvm.Cond.and given_1 narrow_1).before args s = true from hpre))
  obtain ⟨g1, g2⟩ := and_e hg
  obtain ⟨g3, g4⟩ := and_e g2
  obtain ⟨g5, g6⟩ := and_e g4
  obtain ⟨g7, g8⟩ := and_e g6
  obtain ⟨w0, w1, w2, w3, rfl⟩ : ∃ w0 w1 w2 w3 : Value, args = #[w0, w1, w2, w3] := by
    have hs : args.size = 4 := by simpa [Cond.value, given_1] using g1
    obtain ⟨L⟩ := args
    match L, hs with
    | [w0, w1, w2, w3], _ => exact ⟨w0, w1, w2, w3, rfl⟩
  have hw := fun d (hd : d ∈ tables_1) => atoms_spec (ws := Jvm.Cond.code x code maxLocals ret :: tables_1) hat d (List.mem_cons_of_mem _ hd)
  have hfit : Fit s := fun {y c} hc i hi => by
    obtain ⟨ha, rfl⟩ := Array.getElem?_eq_some_iff.mp hc
    have q := List.all_eq_true.mp ((Array.all_eq_true_iff_forall_mem.mp hF) _ (Array.getElem_mem ha)) i (List.mem_range.mpr hi)
    simpa [Array.getElem?_eq_getElem hi] using q
  obtain ⟨i0, ei0⟩ := is_v g3
  obtain rfl : w0 = (.int i0) := Option.some.inj ei0
  obtain ⟨i1, ei1⟩ := is_v g5
  obtain rfl : w1 = (.int i1) := Option.some.inj ei1
  obtain ⟨i2, ei2⟩ := is_v g7
  obtain rfl : w2 = (.int i2) := Option.some.inj ei2
  obtain ⟨i3, ei3⟩ := is_v g8
  obtain rfl : w3 = (.int i3) := Option.some.inj ei3
  obtain ⟨n, o, h1, h2, h3, _, L, rfl, ⟨rfl, N⟩, hq⟩ := rm0 l s _ hw tables_1 i0 i1 i2 i3 s.heap s.heap.size (Nat.le_refl _) p e ha hc hk s m _ below hf ((Spec.applies_iff_loose hf).mp happ).1 ⟨rfl, State.Warmed39.refl s, rfl⟩ trivial
  refine ⟨n, _, h1, h2, h3, hpost _ _ _ _ _ _ ⟨Cond.after_iff.mpr rfl, Cond.after_iff.mpr (eq_i res_at (Term.int_eval (1)) rfl), trivial⟩ ⟨hq.1, hq.2.1, (hq.2.2.sift fun y hy => Or.inr (N y hy)).mono (by decide) (by decide)⟩⟩
theorem main_1_1 : Claimed_1_1 := comes_1 fun _ _ _ _ _ _ h hF => ⟨h.1, hF⟩
theorem main_1_2 : Claimed_1_2 := comes_1 fun _ _ _ _ _ _ h hF => ⟨h.2.1, hF⟩
end Jvm.Pilot.@@N@@
namespace Jvm.Pilot.@@N@@
open Jvm Jvm.ClassFile Sem Op Lib Jvm.Free Jvm.Stand Jvm.Pilot.@@N@@.Jvm.D
/-! MADE BY PROGRAM (witnessworld.py) out of the Statement's table words and the real class files: 9 classes; the members and pool entries that the words name. The judged class is class 1, her method 2. -/
namespace start1
open Jvm.ClassFile
def u (s : String) : CpInfo := .utf8 (stringToUtf16 s)
/-- a pool by its gaps: so many unusable entries, then the entry; so many at the end -/
def gap : Nat → List CpInfo → List CpInfo
  | 0, r => r
  | n + 1, r => .unusable :: gap n r
def poolList (es : List (Nat × CpInfo)) (last : Nat) : List CpInfo := es.foldr (fun e r => gap e.1 (e.2 :: r)) (gap last [])
def pool (es : List (Nat × CpInfo)) (last : Nat) : Array CpInfo := ⟨poolList es last⟩
def fileOf (pool : Array CpInfo) (this : Nat) (attrs : Array Attribute := #[]) (ms : Array MethodInfo := #[]) (fl : Nat := 33) (sup : Nat := 0) (ifs : Array Nat := #[]) (fds : Array FieldInfo := #[]) : ClassFile where
  minorVersion := 0
  majorVersion := 65
  constantPool := pool
  accessFlags := fl
  thisClass := this
  superClass := sup
  interfaces := ifs
  fields := fds
  methods := ms
  attributes := attrs
def plain (name : String) (sup : Option ClassId) : Class where
  name := name
  kind := .ordinary
  loader := none
  accessFlags := 33
  super := sup
  interfaces := #[]
  cf := none
  fields := #[]
  methods := #[]
  instanceTypes := #[]
  staticTypes := #[]
  resolved := #[]
  callSites := []
  init := .initialized
  statics := none
  mirror := none

def pool0 : Array CpInfo := pool [(5, u "<init>"), (0, u "()V"), (1, .class_ 10), (1, u "java/lang/Object")] 113

def k0c0 : Code := { maxStack := 0, maxLocals := 1, code := object_method_1_code, exceptionTable := #[], attributes := #[] }
def k0m0 : Method := { name := "<init>", desc := "()V", sig := { parameters := [], returnType := none }, accessFlags := 1, code := some k0c0 }
/-- java/lang/Object -/
def k0 : Class := { plain "java/lang/Object" none with
  accessFlags := 33
  interfaces := #[]
  cf := some (fileOf pool0 8 #[] #[{ accessFlags := 1, nameIndex := 5, descriptorIndex := 6, attributes := #[] }] 33 0 #[] #[])
  fields := #[]
  methods := #[k0m0]
  instanceTypes := #[]
  staticTypes := #[]
  resolved := Array.replicate 124 none
  statics := none }

def pool1 : Array CpInfo := pool [(2, .class_ 4), (1, u "java/lang/Object"), (0, u "<init>"), (0, u "()V"), (0, .class_ 8), (0, u "com/example/ms2rank/ms2rank/candidate/Unpacker"), (0, .methodref 7 10), (0, .nameAndType 5 11), (0, u "([B)V"), (0, .methodref 7 13), (0, .nameAndType 14 15), (0, u "atEnd"), (0, u "()Z"), (0, .methodref 17 18), (0, .class_ 19), (0, .nameAndType 20 21), (0, u "com/example/ms2rank/ms2rank/candidate/UnpackerAtEndPinLaw"), (0, u "next"), (0, u "([BI)I"), (0, .methodref 7 23), (0, .nameAndType 24 25), (0, u "number"), (0, u "()I"), (3, u "law"), (0, u "(IIII)Z")] 4

def k1m0 : Method := { name := "<init>", desc := "()V", sig := { parameters := [], returnType := none }, accessFlags := 1, code := none }
def k1c1 : Code := { maxStack := 3, maxLocals := 3, code := method_2_code, exceptionTable := #[], attributes := #[] }
def k1m1 : Method := { name := "next", desc := "([BI)I", sig := { parameters := [(.array .byte), .int], returnType := some .int }, accessFlags := 10, code := some k1c1 }
def k1c2 : Code := { maxStack := 5, maxLocals := 11, code := code, exceptionTable := #[], attributes := #[] }
def k1m2 : Method := { name := "law", desc := "(IIII)Z", sig := { parameters := [.int, .int, .int, .int], returnType := some .boolean }, accessFlags := 9, code := some k1c2 }
/-- com/example/ms2rank/ms2rank/candidate/UnpackerAtEndPinLaw -/
def k1 : Class := { plain "com/example/ms2rank/ms2rank/candidate/UnpackerAtEndPinLaw" (some 0) with
  accessFlags := 49
  interfaces := #[]
  cf := some (fileOf pool1 17 #[] #[{ accessFlags := 1, nameIndex := 5, descriptorIndex := 6, attributes := #[] }, { accessFlags := 10, nameIndex := 20, descriptorIndex := 21, attributes := #[] }, { accessFlags := 9, nameIndex := 29, descriptorIndex := 30, attributes := #[] }] 49 2 #[] #[])
  fields := #[]
  methods := #[k1m0, k1m1, k1m2]
  instanceTypes := #[]
  staticTypes := #[]
  resolved := Array.replicate 35 none
  statics := none }

def pool2 : Array CpInfo := pool [(1, .methodref 2 3), (0, .class_ 4), (0, .nameAndType 5 6), (0, u "java/lang/Object"), (0, u "<init>"), (0, u "()V"), (0, .fieldref 8 9), (0, .class_ 10), (0, .nameAndType 11 12), (0, u "com/example/ms2rank/ms2rank/candidate/Unpacker"), (0, u "packed"), (0, u "[B"), (0, .fieldref 8 14), (0, .nameAndType 15 16), (0, u "at"), (0, u "I"), (2, u "number"), (0, u "()I"), (11, u "([B)V"), (2, u "atEnd"), (0, u "()Z")] 6

def k2c0 : Code := { maxStack := 2, maxLocals := 2, code := prog_8_method_1_code, exceptionTable := #[], attributes := #[] }
def k2m0 : Method := { name := "<init>", desc := "([B)V", sig := { parameters := [(.array .byte)], returnType := none }, accessFlags := 0, code := some k2c0 }
def k2c1 : Code := { maxStack := 2, maxLocals := 1, code := prog_8_method_2_code, exceptionTable := #[], attributes := #[] }
def k2m1 : Method := { name := "atEnd", desc := "()Z", sig := { parameters := [], returnType := some .boolean }, accessFlags := 0, code := some k2c1 }
def k2c2 : Code := { maxStack := 5, maxLocals := 4, code := prog_8_method_3_code, exceptionTable := #[], attributes := #[] }
def k2m2 : Method := { name := "number", desc := "()I", sig := { parameters := [], returnType := some .int }, accessFlags := 0, code := some k2c2 }
/-- com/example/ms2rank/ms2rank/candidate/Unpacker -/
def k2 : Class := { plain "com/example/ms2rank/ms2rank/candidate/Unpacker" (some 0) with
  accessFlags := 32
  interfaces := #[]
  cf := some (fileOf pool2 8 #[] #[{ accessFlags := 0, nameIndex := 5, descriptorIndex := 32, attributes := #[] }, { accessFlags := 0, nameIndex := 35, descriptorIndex := 36, attributes := #[] }, { accessFlags := 0, nameIndex := 19, descriptorIndex := 20, attributes := #[] }] 32 2 #[] #[{ accessFlags := 18, nameIndex := 11, descriptorIndex := 12, attributes := #[] }, { accessFlags := 2, nameIndex := 15, descriptorIndex := 16, attributes := #[] }])
  fields := #[{ name := "packed", type := (.array .byte), accessFlags := 18, slot := 0, constantValue := 0 }, { name := "at", type := .int, accessFlags := 2, slot := 1, constantValue := 0 }]
  methods := #[k2m0, k2m1, k2m2]
  instanceTypes := #[(.array .byte), .int]
  staticTypes := #[]
  resolved := Array.replicate 43 none
  statics := none }

def pool3 : Array CpInfo := pool [(1, u "java/lang/Cloneable"), (0, .class_ 1), (0, u "java/lang/Object"), (0, .class_ 3)] 3

/-- java/lang/Cloneable -/
def k3 : Class := { plain "java/lang/Cloneable" (some 0) with
  accessFlags := 1537
  interfaces := #[]
  cf := some (fileOf pool3 2 #[] #[] 1537 4 #[] #[])
  fields := #[]
  methods := #[]
  instanceTypes := #[]
  staticTypes := #[]
  resolved := Array.replicate 8 none
  statics := none }

def pool4 : Array CpInfo := pool [(1, u "java/io/Serializable"), (0, .class_ 1), (0, u "java/lang/Object"), (0, .class_ 3)] 3

/-- java/io/Serializable -/
def k4 : Class := { plain "java/io/Serializable" (some 0) with
  accessFlags := 1537
  interfaces := #[]
  cf := some (fileOf pool4 2 #[] #[] 1537 4 #[] #[])
  fields := #[]
  methods := #[]
  instanceTypes := #[]
  staticTypes := #[]
  resolved := Array.replicate 8 none
  statics := none }

/-- the primitive byte -/
def k5 : Class := { plain "byte" none with kind := .primitive 'B', accessFlags := 0x411 }
/-- [B -/
def k6 : Class := { plain "[B" (some 0) with kind := .array 5 .byte, interfaces := #[3, 4], accessFlags := 1041 }

/-- the primitive int -/
def k7 : Class := { plain "int" none with kind := .primitive 'I', accessFlags := 0x411 }
/-- [I -/
def k8 : Class := { plain "[I" (some 0) with kind := .array 7 .int, interfaces := #[3, 4], accessFlags := 1041 }

def heap : Heap := #[]
def classes : Array Class := #[k0, k1, k2, k3, k4, k5, k6, k7, k8]
def interned : List (Array UInt16 × Addr) := []
def slotsUsed : Nat := 0
def theMethod : MethodId := ⟨1, 2⟩
def args0 : Array Value := #[.int 5, .int 6, .int 7, .int 8]
def aboutOver (below : List Frame) : State where
  vm := { classes := classes, interned := interned.toArray }
  heap := heap
  slotsUsed := slotsUsed
  threads := #[{ frames := .invoking theMethod args0 :: below }]
def below0 : List Frame := [.native { method := ⟨0, 0⟩, args := #[] }]
def about1 : State := aboutOver below0
def p0 : Program := .bare "" "" ""
def e0 : Env := launch0.env 0 0 0
theorem w_frames : about1.frames = Frame.invoking theMethod args0 :: below0 := rfl
set_option maxRecDepth 65536 in
theorem w_args : argsFit about1.vm theMethod args0 = true := by decide +kernel
set_option maxRecDepth 65536 in
theorem w_heap : heapFits about1 = true := by decide +kernel
set_option maxRecDepth 65536 in
theorem w_runnable : about1.curStatus? = some .runnable := by decide +kernel
set_option maxRecDepth 65536 in
theorem w_alone : about1.alone = true := by decide +kernel
set_option maxRecDepth 65536 in
theorem w_named : about1.methodNamed? x = some theMethod := by decide +kernel
set_option maxRecDepth 65536 in
theorem w_hears : about1.hears theMethod below0 = true := by decide +kernel
set_option maxRecDepth 65536 in
theorem w_ripe : about1.ripe theMethod args0 below0 = true := by decide +kernel
theorem w_running : about1.status = .running := rfl
set_option maxRecDepth 65536 in
theorem w_room : about1.hasRoom e0.platform room_1 = true :=
  launch0.hasRoom_least _ room_1 (by decide +kernel) (by decide +kernel) (by decide +kernel) (by decide +kernel) (by decide +kernel) (by decide +kernel)
theorem allAtoms_all (ts : List Jvm.Cond) (a : Array Jvm.Value) (st : Jvm.State) : (allAtoms ts).before a st = ts.all (fun c => c.before a st) := by
  induction ts with
  | nil => rfl
  | cons c t ih =>
    show (Jvm.Cond.and c (allAtoms t)).before a st = _
    rw [Jvm.Cond.before_and, ih, List.all_cons]
def words1 : List Jvm.Cond := Jvm.Cond.code x code maxLocals ret :: tables_1
/-- a 'code' word, met by the world's own term for the bytes: nothing is compared byte by byte -/
theorem code_word {y : MethodName} {bytes : ByteArray} {mx : Nat} {rt : Option FieldType} {a : Array Value} {s : State} {m : MethodId} {meth : Method} {c : Code} (h1 : s.methodNamed? y = some m) (h2 : s.vm.method? m = some meth) (h3 : meth.code = some c) (h4 : c.code = bytes)
    (h5 : (c.maxLocals == mx && c.exceptionTable.isEmpty && decide (c.maxStack ≤ mostOperands) && decide (meth.sig.returnType = rt) && !meth.locks && decide (parseMethodDescriptor y.desc = some meth.sig)) = true) : (Jvm.Cond.code y bytes mx rt).before a s = true := by
  simp only [Bool.and_eq_true, beq_iff_eq, Bool.not_eq_true', decide_eq_true_eq] at h5
  obtain ⟨⟨⟨⟨⟨g1, g2⟩, g3⟩, g4⟩, g5⟩, g6⟩ := h5
  simp [Cond.before, Cond.holds, Cond.value, h1, h2, h3, h4, g1, g2, g3, g4, g5, g6]
def isCode : Jvm.Cond → Bool
  | .code _ _ _ _ => true
  | _ => false
theorem all_split {L : List Jvm.Cond} {P : Jvm.Cond → Bool} (h1 : L.all (fun c => isCode c || P c) = true) (h2 : ∀ c ∈ L.filter isCode, P c = true) : L.all P = true := by
  refine List.all_eq_true.mpr fun c hc => ?_
  have h := List.all_eq_true.mp h1 c hc
  rcases Bool.eq_false_or_eq_true (isCode c) with hi | hi
  · exact h2 c (List.mem_filter.mpr ⟨hc, hi⟩)
  · simpa [hi] using h
set_option maxRecDepth 65536 in
theorem w_c0 : (Jvm.Cond.code x code maxLocals ret).before args0 about1 = true := code_word (m := ⟨1, 2⟩) (meth := k1m2) (c := k1c2) (by decide +kernel) rfl rfl rfl (by decide +kernel)
set_option maxRecDepth 65536 in
theorem w_c1 : (Jvm.Cond.code ({ cls := "com/example/ms2rank/ms2rank/candidate/Unpacker", name := "<init>", desc := "([B)V" } : Jvm.MethodName) prog_8_method_1_code (2 : Nat) (Option.none : Option Jvm.ClassFile.FieldType)).before args0 about1 = true := code_word (m := ⟨2, 0⟩) (meth := k2m0) (c := k2c0) (by decide +kernel) rfl rfl rfl (by decide +kernel)
set_option maxRecDepth 65536 in
theorem w_c2 : (Jvm.Cond.code ({ cls := "java/lang/Object", name := "<init>", desc := "()V" } : Jvm.MethodName) object_method_1_code (1 : Nat) (Option.none : Option Jvm.ClassFile.FieldType)).before args0 about1 = true := code_word (m := ⟨0, 0⟩) (meth := k0m0) (c := k0c0) (by decide +kernel) rfl rfl rfl (by decide +kernel)
set_option maxRecDepth 65536 in
theorem w_c3 : (Jvm.Cond.code ({ cls := "com/example/ms2rank/ms2rank/candidate/Unpacker", name := "atEnd", desc := "()Z" } : Jvm.MethodName) prog_8_method_2_code (1 : Nat) (Option.some Jvm.ClassFile.FieldType.boolean)).before args0 about1 = true := code_word (m := ⟨2, 1⟩) (meth := k2m1) (c := k2c1) (by decide +kernel) rfl rfl rfl (by decide +kernel)
set_option maxRecDepth 65536 in
theorem w_c4 : (Jvm.Cond.code ({ cls := "com/example/ms2rank/ms2rank/candidate/UnpackerAtEndPinLaw", name := "next", desc := "([BI)I" } : Jvm.MethodName) method_2_code (3 : Nat) (Option.some Jvm.ClassFile.FieldType.int)).before args0 about1 = true := code_word (m := ⟨1, 1⟩) (meth := k1m1) (c := k1c1) (by decide +kernel) rfl rfl rfl (by decide +kernel)
set_option maxRecDepth 65536 in
theorem w_c5 : (Jvm.Cond.code ({ cls := "com/example/ms2rank/ms2rank/candidate/Unpacker", name := "number", desc := "()I" } : Jvm.MethodName) prog_8_method_3_code (4 : Nat) (Option.some Jvm.ClassFile.FieldType.int)).before args0 about1 = true := code_word (m := ⟨2, 2⟩) (meth := k2m2) (c := k2c2) (by decide +kernel) rfl rfl rfl (by decide +kernel)
def codes1 : List Jvm.Cond := [Jvm.Cond.code x code maxLocals ret, Jvm.Cond.code ({ cls := "com/example/ms2rank/ms2rank/candidate/Unpacker", name := "<init>", desc := "([B)V" } : Jvm.MethodName) prog_8_method_1_code (2 : Nat) (Option.none : Option Jvm.ClassFile.FieldType), Jvm.Cond.code ({ cls := "java/lang/Object", name := "<init>", desc := "()V" } : Jvm.MethodName) object_method_1_code (1 : Nat) (Option.none : Option Jvm.ClassFile.FieldType), Jvm.Cond.code ({ cls := "com/example/ms2rank/ms2rank/candidate/Unpacker", name := "atEnd", desc := "()Z" } : Jvm.MethodName) prog_8_method_2_code (1 : Nat) (Option.some Jvm.ClassFile.FieldType.boolean), Jvm.Cond.code ({ cls := "com/example/ms2rank/ms2rank/candidate/UnpackerAtEndPinLaw", name := "next", desc := "([BI)I" } : Jvm.MethodName) method_2_code (3 : Nat) (Option.some Jvm.ClassFile.FieldType.int), Jvm.Cond.code ({ cls := "com/example/ms2rank/ms2rank/candidate/Unpacker", name := "number", desc := "()I" } : Jvm.MethodName) prog_8_method_3_code (4 : Nat) (Option.some Jvm.ClassFile.FieldType.int)]
set_option maxRecDepth 65536 in
theorem codes_eq : words1.filter isCode = codes1 := rfl
theorem w_codes : ∀ c ∈ words1.filter isCode, c.before args0 about1 = true := by
  rw [codes_eq]
  intro c hc
  simp only [codes1, List.mem_cons, List.not_mem_nil, or_false] at hc
  rcases hc with rfl | rfl | rfl | rfl | rfl | rfl
  · exact w_c0
  · exact w_c1
  · exact w_c2
  · exact w_c3
  · exact w_c4
  · exact w_c5
set_option maxRecDepth 65536 in
theorem w_t1 : (words1.take 24).all (fun c => isCode c || c.before args0 about1) = true := by decide +kernel
set_option maxRecDepth 65536 in
theorem w_t2 : (words1.drop 24).all (fun c => isCode c || c.before args0 about1) = true := by decide +kernel
theorem w_tables : (allAtoms (Jvm.Cond.code x code maxLocals ret :: tables_1)).before args0 about1 = true := by
  rw [allAtoms_all]
  show words1.all (fun c => c.before args0 about1) = true
  refine all_split ?_ w_codes
  rw [← List.take_append_drop 24 words1, List.all_append, w_t1, w_t2]
  rfl
set_option maxRecDepth 65536 in
theorem w_case : (Jvm.Cond.and given_1 narrow_1).before args0 about1 = true := by decide +kernel
theorem w_applies : (headSpec (Jvm.Cond.code x code maxLocals ret :: tables_1) room_1).applies x e0.platform about1 = true :=
  (Spec.applies_iff w_frames).mpr ⟨w_running, w_runnable, w_alone, w_named, w_hears, w_ripe, w_room, w_tables⟩
theorem atStart : AtStart classFile x code maxLocals ret World_1 tables_1 room_1 Calls_1 rest_1 Pre_1 launch0 p0 e0 about1 theMethod args0 below0 :=
  ⟨lists_1, trivial, launch0.admits_env _ _ _, launch0.least_env, fairChoices_fair.cas, fairChoices_fair.clock, w_frames, w_args, w_heap, w_applies, trivial, trivial, w_case⟩
end start1
theorem witness_1 : WitnessClaimed_1 := ⟨start1.p0, start1.e0, start1.about1, start1.theMethod, start1.args0, start1.below0, start1.atStart⟩
end Jvm.Pilot.@@N@@
