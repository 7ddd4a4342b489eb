import JvmDerived
import JvmDerived.Pilot.@@N@@Statement
import JvmDerived.Pilot.@@N@@Code
set_option linter.unusedVariables false
set_option linter.unusedSimpArgs false
namespace Jvm.RoadKit
open Sem ClassFile Op Lib Jvm.Stand Jvm.Free Jvm.LawKit
section New
variable {p : Program} {l : Launch} {e : Env} {R : Room} {s : State} {m : MethodId} {args : Array Value} {below : List Frame} {meth : Method} {c : Code} {T : State} {locs : List Loc} {cells slots : Nat}
theorem retI (X : Stand p l e R s m args below meth c T locs cells slots) (hx : p.tables.exec = Jvm.exec) {pc : Nat} {Ls : Array Slot} {z : Int32} {rest : List Value} (hret : meth.sig.returnType = some .int) (hd : decode c.code pc = .ok (.ireturn, 1)) {fs : List Frame}
    (hl : ∀ (f : JFrame) (acts : List Action), f.method = m → f.locked = none → f.entered = [] → (doReturn e (T.setTop f) acts (some (.int z))).1 = T.setFrames fs) : Steps p.tables e below (T.setTop (mkF m pc Ls (.int z :: rest))) (T.setFrames fs) := by
  have hm' : T.vm.method? m = some meth := X.method'
  have hn : narrow .int (.int z) = .int z := rfl
  show Steps p.tables e below (T.setTop { method := m, pc := pc, locals := Ls, stack := _ :: rest, locked := none }) _
  jvm_step X.here [X.here.top, hx, hd, hm', hret, hn]
  first | (intro acts; rw [hl _ acts rfl rfl rfl]) | rw [hl _ _ rfl rfl rfl]
  exact Steps.refl _
end New
end Jvm.RoadKit
namespace Jvm.Pilot.@@N@@
open Jvm Jvm.ClassFile Sem Op Lib Jvm.Free Jvm.Stand Jvm.LawKit Jvm.RoadKit Bundle Jvm.Pilot.@@N@@.Jvm.D
/-- from the state T the run comes to a state of which K holds -/
def own_Go (p : Program) (e : Env) (below : List Frame) (K : State → Prop) (T : State) : Prop := ∃ t, Steps p.tables e below T t ∧ K t
theorem own_st {p : Program} {e : Env} {below : List Frame} {K : State → Prop} {T T' : State} (h : ∀ t, Steps p.tables e below T' t → Steps p.tables e below T t) (g : own_Go p e below K T') : own_Go p e below K T := by
  obtain ⟨t, a, b⟩ := g; exact ⟨t, h t a, b⟩
theorem own_tr {p : Program} {e : Env} {below : List Frame} {K : State → Prop} {T T' : State} (h : Steps p.tables e below T T') (g : own_Go p e below K T') : own_Go p e below K T := by
  obtain ⟨t, a, b⟩ := g; exact ⟨t, h.trans a, b⟩
theorem own_lrem {tb : Tables} [Ours tb] {e : Env} {below : List Frame} {T target : State} {m : MethodId} {c : Code} {g : JFrame} (h : At T m c below) (hx : tb.exec = Jvm.exec) (hg : g.method = m) {x y : Int64} {rest : List Value} (hd : decode c.code g.pc = .ok (.lrem, 1)) (hs : g.stack = .long y :: .long x :: rest) (hy : y ≠ 0)
    (hr : Steps tb e below (T.setTop { g with pc := g.pc + 1, stack := .long (x % y) :: rest }) target) : Steps tb e below (T.setTop g) target := by
  have q : x - x / y * y = x % y := lrem_mod x y
  exact XS.lrem h hx hg hd hs hy (by rw [q]; exact hr)
/-- a boolean's worth: 1 where P holds, 0 where it doesn't -/
def own_B (P : Prop) (r : Int32) : Prop := (r = 1 ∧ P) ∨ (r = 0 ∧ ¬ P)
theorem own_B.yes {P : Prop} {r : Int32} (e : r = 1) (h : P) : own_B P r := Or.inl ⟨e, h⟩
theorem own_B.no {P : Prop} {r : Int32} (e : r = 0) (h : ¬ P) : own_B P r := Or.inr ⟨e, h⟩
theorem own_B.same {P Q : Prop} {r v : Int32} (a : own_B P r) (b : own_B Q v) (h : P ↔ Q) : r = v := by
  rcases a with ⟨rfl, p⟩ | ⟨rfl, p⟩ <;> rcases b with ⟨rfl, q⟩ | ⟨rfl, q⟩
  · rfl
  · exact absurd (h.mp p) q
  · exact absurd (h.mpr q) p
  · rfl
theorem own_B.one {P : Prop} {r : Int32} (a : own_B P r) (h : P) : r = 1 := by
  rcases a with ⟨rfl, p⟩ | ⟨rfl, p⟩
  · rfl
  · exact absurd h p
theorem own_B.zero {P : Prop} {r : Int32} (a : own_B P r) (h : ¬ P) : r = 0 := by
  rcases a with ⟨rfl, p⟩ | ⟨rfl, p⟩
  · exact absurd p h
  · rfl
theorem own_B.ne0 {P : Prop} {r : Int32} (a : own_B P r) (h : P) : ¬ r = 0 := by rw [a.one h]; decide
theorem own_B.holds {P : Prop} {r : Int32} (a : own_B P r) (h : ¬ r = 0) : P := by
  rcases a with ⟨rfl, p⟩ | ⟨rfl, p⟩
  · exact p
  · exact absurd rfl h
theorem own_B.fails {P : Prop} {r : Int32} (a : own_B P r) (h : r = 0) : ¬ P := by
  rcases a with ⟨rfl, p⟩ | ⟨rfl, p⟩
  · exact absurd h (by decide)
  · exact p
theorem own_atJ (ws : List Int64) (i : Nat) : (ws.map Value.long).getD i (.long (0 : Int64)) = .long (ws.getD i 0) := by
  simp only [List.getD, List.getElem?_map]; cases ws[i]? <;> rfl
theorem own_atI (ws : List Int32) (i : Nat) : (ws.map Value.int).getD i (.int (0 : Int32)) = .int (ws.getD i 0) := by
  simp only [List.getD, List.getElem?_map]; cases ws[i]? <;> rfl
theorem own_selp {Z s : State} {a0 args : Array Value} {y : MethodName} {n : Nat} (hZ : Z.Warmed39 s.vm) (wi : (Jvm.Cond.instantiable y.cls n).before a0 Z = true) (wm : (Jvm.Cond.instanceMethod y).before a0 Z = true) (wp : (Jvm.Cond.privateMethod y).before a0 Z = true) (hy : y.cls ≠ "java/lang/invoke/MethodHandle" ∧ y.cls ≠ "java/lang/invoke/VarHandle") : (Jvm.Cond.selects y.cls y y).before args s = true := by
  have w1 : (Jvm.Cond.instantiable y.cls n).before args s = true := mvT hZ wi
  obtain ⟨c, k, h1, h2, h3, h4, -⟩ := Cond.instantiable_spec w1
  have h5 : k.isInterface = false := by cases hq : k.isInterface <;> simp [hq] at h4 ⊢
  exact selects_self_of_private h1 h2 h5 (Cond.privateMethod_at (mvP hZ wp (args := args))) (mvT hZ wm) hy
theorem own_hat {T : State} {h : Heap} {a : Addr} {c : Cell} (e : T.heap = h) (q : h[a]? = some c) : T.heap[a]? = some c := by rw [e]; exact q
theorem own_nn (x : Int32) : nar .byte (nar .byte x) = nar .byte x := by
  refine Int32.toInt_inj.mp ?_
  have a := c_i2b x
  have b := c_i2b x.toInt8.toInt32
  show x.toInt8.toInt32.toInt8.toInt32.toInt = x.toInt8.toInt32.toInt
  omega
theorem own_nb (x : Int32) : nar .byte x.toInt8.toInt32 = x.toInt8.toInt32 := own_nn x
theorem own_fit {x : Int32} (h : nar .byte x = x) : fits .byte (.int x) = true := by rw [← h]; exact fits_nar_byte x
theorem own_cl {j : Int32} {i : Nat} (h : j.toInt = (i : Int)) : j.toNatClampNeg = i := by rw [Int32.toNatClampNeg, h]; rfl
theorem own_lt {a b : Int32} (h : a.toInt < b.toInt) : a < b := Int32.lt_iff_toInt_lt.mpr h
theorem own_nlt {a b : Int32} (h : b.toInt ≤ a.toInt) : ¬ a < b := fun q => absurd (Int32.lt_iff_toInt_lt.mp q) (by omega)
theorem own_ltI {a b : Int32} (h : a < b) : a.toInt < b.toInt := Int32.lt_iff_toInt_lt.mp h
theorem own_nltI {a b : Int32} (h : ¬ a < b) : b.toInt ≤ a.toInt := by have := mt Int32.lt_iff_toInt_lt.mpr h; omega
theorem own_neI {a b : Int32} (h : ¬ a = b) : ¬ a.toInt = b.toInt := fun q => h (Int32.toInt_inj.mp q)
theorem own_ltL {a b : Int64} (h : a < b) : a.toInt < b.toInt := Int64.lt_iff_toInt_lt.mp h
theorem own_nltL {a b : Int64} (h : ¬ a < b) : b.toInt ≤ a.toInt := by have := mt Int64.lt_iff_toInt_lt.mpr h; omega
theorem own_neL {a b : Int64} (h : ¬ a = b) : ¬ a.toInt = b.toInt := fun q => h (Int64.toInt_inj.mp q)
theorem own_sum (a b : Int32) : (a.toInt64 + b.toInt64).toInt32 = a + b := by
  refine Int32.toInt_inj.mp ?_
  have h1 := c_l2i (a.toInt64 + b.toInt64)
  have h2 := c_ladd a.toInt64 b.toInt64
  have h3 := c_i2l a
  have h4 := c_i2l b
  have h5 := c_iadd a b
  have r1 := rng32 (a.toInt64 + b.toInt64).toInt32
  have r2 := rng32 (a + b)
  omega
theorem d1_0 : decode prog_37_method_1_code 0 = .ok (.aload_n 0, 1) := by decide +kernel
theorem d1_1 : decode prog_37_method_1_code 1 = .ok (.invokespecial 1, 3) := by decide +kernel
theorem d1_4 : decode prog_37_method_1_code 4 = .ok (.aload_n 0, 1) := by decide +kernel
theorem d1_5 : decode prog_37_method_1_code 5 = .ok (.iload_n 1, 1) := by decide +kernel
theorem d1_6 : decode prog_37_method_1_code 6 = .ok (.putfield 7, 3) := by decide +kernel
theorem d1_9 : decode prog_37_method_1_code 9 = .ok (.aload_n 0, 1) := by decide +kernel
theorem d1_10 : decode prog_37_method_1_code 10 = .ok (.iload_n 2, 1) := by decide +kernel
theorem d1_11 : decode prog_37_method_1_code 11 = .ok (.putfield 13, 3) := by decide +kernel
theorem d1_14 : decode prog_37_method_1_code 14 = .ok (.aload_n 0, 1) := by decide +kernel
theorem d1_15 : decode prog_37_method_1_code 15 = .ok (.iload_n 3, 1) := by decide +kernel
theorem d1_16 : decode prog_37_method_1_code 16 = .ok (.putfield 16, 3) := by decide +kernel
theorem d1_19 : decode prog_37_method_1_code 19 = .ok (.aload_n 0, 1) := by decide +kernel
theorem d1_20 : decode prog_37_method_1_code 20 = .ok (.iload 4, 2) := by decide +kernel
theorem d1_22 : decode prog_37_method_1_code 22 = .ok (.putfield 19, 3) := by decide +kernel
theorem d1_25 : decode prog_37_method_1_code 25 = .ok (.aload_n 0, 1) := by decide +kernel
theorem d1_26 : decode prog_37_method_1_code 26 = .ok (.iload 5, 2) := by decide +kernel
theorem d1_28 : decode prog_37_method_1_code 28 = .ok (.putfield 22, 3) := by decide +kernel
theorem d1_31 : decode prog_37_method_1_code 31 = .ok (.return_, 1) := by decide +kernel
theorem pn_1 : plainName "com/example/coverbill/coverbill/charge/ChargeRunResult" = true := by first | (simp [plainName, overriddenIn]; done) | decide +kernel
theorem ef_1 (m : MethodId) (x0 : Addr) (x1 : Int32) (x2 : Int32) (x3 : Int32) (x4 : Int32) (x5 : Int32) : entryFrame m #[(.ref x0), (.int x1), (.int x2), (.int x3), (.int x4), (.int x5)] 6 = mkF m 0 #[.val (.ref x0), .val (.int x1), .val (.int x2), .val (.int x3), .val (.int x4), .val (.int x5)] [] := by first | (simp [entryFrame, mkF, argsToLocals, Value.category]; done) | rfl
def Q1 (Z : State) (a1 : Addr) (p2 : Int32) (p3 : Int32) (p4 : Int32) (p5 : Int32) (p6 : Int32) (h0 : Heap) (n0 : Nat) (v : Option Value) (h : Heap) (L : List Loc) : Prop := v = none ∧ Fr n0 L ∧ Keep h0 h [a1] ∧ (Exa Z h a1 "com/example/coverbill/coverbill/charge/ChargeRunResult") ∧ (Fld Z h a1 "com/example/coverbill/coverbill/charge/ChargeRunResult" "complete" "I" (.int p2)) ∧ (Fld Z h a1 "com/example/coverbill/coverbill/charge/ChargeRunResult" "error" "I" (.int p3)) ∧ (Fld Z h a1 "com/example/coverbill/coverbill/charge/ChargeRunResult" "chargesCreated" "I" (.int p4)) ∧ (Fld Z h a1 "com/example/coverbill/coverbill/charge/ChargeRunResult" "endDatesChanged" "I" (.int p5)) ∧ (Fld Z h a1 "com/example/coverbill/coverbill/charge/ChargeRunResult" "chargesCanceled" "I" (.int p6))
set_option maxRecDepth 65536 in
set_option maxHeartbeats 40000000 in
theorem rm1 (l : Launch) (Z : State) (a0 : Array Value) (hw : ∀ d ∈ tables_1, d.before a0 Z = true) (ws : List Jvm.Cond) (a1 : Addr) (p2 : Int32) (p3 : Int32) (p4 : Int32) (p5 : Int32) (p6 : Int32) (h0 : Heap) (n0 : Nat) (Z0 : n0 ≤ h0.size) (g_a1 : n0 ≤ a1) (P0 : Exa Z h0 a1 "com/example/coverbill/coverbill/charge/ChargeRunResult") (P1 : Fld Z h0 a1 "com/example/coverbill/coverbill/charge/ChargeRunResult" "complete" "I" (.int (0 : Int32))) (P2 : Fld Z h0 a1 "com/example/coverbill/coverbill/charge/ChargeRunResult" "error" "I" (.int (0 : Int32))) (P3 : Fld Z h0 a1 "com/example/coverbill/coverbill/charge/ChargeRunResult" "chargesCreated" "I" (.int (0 : Int32))) (P4 : Fld Z h0 a1 "com/example/coverbill/coverbill/charge/ChargeRunResult" "endDatesChanged" "I" (.int (0 : Int32))) (P5 : Fld Z h0 a1 "com/example/coverbill/coverbill/charge/ChargeRunResult" "chargesCanceled" "I" (.int (0 : Int32))) :
    MetFree l (⟨"com/example/coverbill/coverbill/charge/ChargeRunResult", "<init>", "(IIIII)V"⟩ : MethodName) (head1 (Jvm.Cond.code (⟨"com/example/coverbill/coverbill/charge/ChargeRunResult", "<init>", "(IIIII)V"⟩ : MethodName) prog_37_method_1_code 6 none :: ws) ({ frames := 1, cells := 0, slots := 0, locals := 12 } : Room)) (fun a U => a = #[(.ref a1), (.int p2), (.int p3), (.int p4), (.int p5), (.int p6)] ∧ Z.Warmed39 U.vm ∧ U.heap = h0) (fun _ _ _ _ _ => True) (fun _ U o U' => ∃ v L, o = .returned v ∧ Q1 Z a1 p2 p3 p4 p5 p6 h0 n0 v U'.heap L ∧ FrameEnd U o U' L ({ frames := 1, cells := 0, slots := 0, locals := 12 } : Room).cells ({ frames := 1, cells := 0, slots := 0, locals := 12 } : Room).slots) := by
  refine MetFree.of_bodySF (plainFor_of_name pn_1) hisR ?_
  intro p e s m args below meth c s₁ Bd hml0 hP hK
  obtain ⟨rfl, hZ, hh⟩ := hP
  have hx := Bd.exec
  have hby := Bd.bytes
  have hml : c.maxLocals = 6 := hml0
  have hown : s.vm.findClass "com/example/coverbill/coverbill/charge/ChargeRunResult" = some m.cls := findClass_of_methodNamed Bd.named
  have hnm := (name_of_methodNamed Bd.named Bd.method).1
  have X0 : Stand p l e ({ frames := 1, cells := 0, slots := 0, locals := 12 } : Room) s m #[(.ref a1), (.int p2), (.int p3), (.int p4), (.int p5), (.int p6)] below meth c s₁ [] 0 0 := Stand.of_body Bd
  have e0 : s₁.heap = h0 := by rw [← hh, Bd.state]; rfl
  have N0 := Fr.nil n0
  suffices G0 : ∀ K : State → Prop, (∀ (n : State) (v : Option Value) (L : List Loc), n.status = .running → Ended n below (.returned v) → Q1 Z a1 p2 p3 p4 p5 p6 h0 n0 v n.heap L → FrameEnd s (.returned v) n L ({ frames := 1, cells := 0, slots := 0, locals := 12 } : Room).cells ({ frames := 1, cells := 0, slots := 0, locals := 12 } : Room).slots → K n) → own_Go p e below K (s₁.setTop (mkF m 0 #[.val (.ref a1), .val (.int p2), .val (.int p3), .val (.int p4), .val (.int p5), .val (.int p6)] [])) by
    obtain ⟨t, st, o, a, b, v, L, e1, q, fe⟩ := G0 (fun n => ∃ o, n.status = .running ∧ Ended n below o ∧ ∃ v L, o = .returned v ∧ Q1 Z a1 p2 p3 p4 p5 p6 h0 n0 v n.heap L ∧ FrameEnd s o n L ({ frames := 1, cells := 0, slots := 0, locals := 12 } : Room).cells ({ frames := 1, cells := 0, slots := 0, locals := 12 } : Room).slots) (fun n v L a b q f => ⟨_, a, b, v, L, rfl, q, f⟩)
    exact ⟨t, o, castTop (ef_1 m a1 p2 p3 p4 p5 p6) st, a, b, v, L, e1, q, fe⟩
  intro K fin
  show own_Go p e below K (s₁.setTop (mkF m 0 #[.val (.ref a1), .val (.int p2), .val (.int p3), .val (.int p4), .val (.int p5), .val (.int p6)] []))
  refine own_st (fun t k => XS.aloadN X0.here hx rfl (hb hby d1_0) rfl rfl k) ?_
  show own_Go p e below K (s₁.setTop (mkF m 1 #[.val (.ref a1), .val (.int p2), .val (.int p3), .val (.int p4), .val (.int p5), .val (.int p6)] [(.ref a1)]))
  obtain ⟨T1, X1, e1, st1⟩ := initO X0 hx hZ hown (hw _ (List.mem_of_getElem? (i := 6) rfl)) (hw _ (List.mem_of_getElem? (i := 7) rfl)) (hw _ (List.mem_of_getElem? (i := 8) rfl)) e0 (g := (mkF m 1 #[.val (.ref a1), .val (.int p2), .val (.int p3), .val (.int p4), .val (.int p5), .val (.int p6)] [(.ref a1)])) rfl (by rw [hml]; rfl) rfl (hb hby d1_1) (by decide) (W := 0) (by show 2 * 0 + _ ≤ _; exact Nat.le_of_eq rfl) (by decide)
  refine own_st st1 ?_
  show own_Go p e below K (T1.setTop (mkF m 4 #[.val (.ref a1), .val (.int p2), .val (.int p3), .val (.int p4), .val (.int p5), .val (.int p6)] []))
  refine own_st (fun t k => XS.aloadN X1.here hx rfl (hb hby d1_4) rfl rfl k) ?_
  show own_Go p e below K (T1.setTop (mkF m 5 #[.val (.ref a1), .val (.int p2), .val (.int p3), .val (.int p4), .val (.int p5), .val (.int p6)] [(.ref a1)]))
  refine own_st (fun t k => XS.iloadN X1.here hx rfl (hb hby d1_5) rfl k) ?_
  show own_Go p e below K (T1.setTop (mkF m 6 #[.val (.ref a1), .val (.int p2), .val (.int p3), .val (.int p4), .val (.int p5), .val (.int p6)] [(.int p2), (.ref a1)]))
  obtain ⟨T2, h2, X2, e2, W2, st2⟩ := putF X1 hx hZ hown (host := "") (Or.inl (hw _ (List.mem_of_getElem? (i := 9) rfl))) Via.refl e1 P1 P0 (Or.inr ⟨(hw _ (List.mem_of_getElem? (i := 10) rfl)), rfl, hnm⟩) (hw _ (List.mem_of_getElem? (i := 1) rfl)) (ty := .int) (by decide) rfl rfl (g := (mkF m 6 #[.val (.ref a1), .val (.int p2), .val (.int p3), .val (.int p4), .val (.int p5), .val (.int p6)] [(.int p2), (.ref a1)])) rfl rfl (hb hby d1_6)
  have fw2 : Fld Z h2 a1 "com/example/coverbill/coverbill/charge/ChargeRunResult" "complete" "I" (.int p2) := P1.same W2
  have f3 : Exa Z h2 a1 "com/example/coverbill/coverbill/charge/ChargeRunResult" := P0.wr W2
  have f4 : Fld Z h2 a1 "com/example/coverbill/coverbill/charge/ChargeRunResult" "error" "I" (.int (0 : Int32)) := P2.other W2 (Or.inr (slot_ne (Or.inr (hw _ (List.mem_of_getElem? (i := 12) rfl))) (Or.inr (hw _ (List.mem_of_getElem? (i := 10) rfl))) (by decide) (t := .int) (t' := .int) (by decide) (by decide)))
  have f5 : Fld Z h2 a1 "com/example/coverbill/coverbill/charge/ChargeRunResult" "chargesCreated" "I" (.int (0 : Int32)) := P3.other W2 (Or.inr (slot_ne (Or.inr (hw _ (List.mem_of_getElem? (i := 14) rfl))) (Or.inr (hw _ (List.mem_of_getElem? (i := 10) rfl))) (by decide) (t := .int) (t' := .int) (by decide) (by decide)))
  have f6 : Fld Z h2 a1 "com/example/coverbill/coverbill/charge/ChargeRunResult" "endDatesChanged" "I" (.int (0 : Int32)) := P4.other W2 (Or.inr (slot_ne (Or.inr (hw _ (List.mem_of_getElem? (i := 16) rfl))) (Or.inr (hw _ (List.mem_of_getElem? (i := 10) rfl))) (by decide) (t := .int) (t' := .int) (by decide) (by decide)))
  have f7 : Fld Z h2 a1 "com/example/coverbill/coverbill/charge/ChargeRunResult" "chargesCanceled" "I" (.int (0 : Int32)) := P5.other W2 (Or.inr (slot_ne (Or.inr (hw _ (List.mem_of_getElem? (i := 18) rfl))) (Or.inr (hw _ (List.mem_of_getElem? (i := 10) rfl))) (by decide) (t := .int) (t' := .int) (by decide) (by decide)))
  have N2 := Fr.snoc X2 N0 g_a1
  have Z2 : n0 ≤ h2.size := Nat.le_trans Z0 (Keep.of_wr W2).1
  have K2 : Keep h0 h2 [a1] := (Keep.refl h0 [a1]).wr W2 (Or.inl (List.mem_of_getElem? (i := 0) rfl))
  refine own_st st2 ?_
  show own_Go p e below K (T2.setTop (mkF m 9 #[.val (.ref a1), .val (.int p2), .val (.int p3), .val (.int p4), .val (.int p5), .val (.int p6)] []))
  refine own_st (fun t k => XS.aloadN X2.here hx rfl (hb hby d1_9) rfl rfl k) ?_
  show own_Go p e below K (T2.setTop (mkF m 10 #[.val (.ref a1), .val (.int p2), .val (.int p3), .val (.int p4), .val (.int p5), .val (.int p6)] [(.ref a1)]))
  refine own_st (fun t k => XS.iloadN X2.here hx rfl (hb hby d1_10) rfl k) ?_
  show own_Go p e below K (T2.setTop (mkF m 11 #[.val (.ref a1), .val (.int p2), .val (.int p3), .val (.int p4), .val (.int p5), .val (.int p6)] [(.int p3), (.ref a1)]))
  obtain ⟨T8, h8, X8, e8, W8, st8⟩ := putF X2 hx hZ hown (host := "") (Or.inl (hw _ (List.mem_of_getElem? (i := 11) rfl))) Via.refl e2 f4 f3 (Or.inr ⟨(hw _ (List.mem_of_getElem? (i := 12) rfl)), rfl, hnm⟩) (hw _ (List.mem_of_getElem? (i := 1) rfl)) (ty := .int) (by decide) rfl rfl (g := (mkF m 11 #[.val (.ref a1), .val (.int p2), .val (.int p3), .val (.int p4), .val (.int p5), .val (.int p6)] [(.int p3), (.ref a1)])) rfl rfl (hb hby d1_11)
  have fw8 : Fld Z h8 a1 "com/example/coverbill/coverbill/charge/ChargeRunResult" "error" "I" (.int p3) := f4.same W8
  have f9 : Exa Z h8 a1 "com/example/coverbill/coverbill/charge/ChargeRunResult" := f3.wr W8
  have f10 : Fld Z h8 a1 "com/example/coverbill/coverbill/charge/ChargeRunResult" "complete" "I" (.int p2) := fw2.other W8 (Or.inr (slot_ne (Or.inr (hw _ (List.mem_of_getElem? (i := 10) rfl))) (Or.inr (hw _ (List.mem_of_getElem? (i := 12) rfl))) (by decide) (t := .int) (t' := .int) (by decide) (by decide)))
  have f11 : Fld Z h8 a1 "com/example/coverbill/coverbill/charge/ChargeRunResult" "chargesCreated" "I" (.int (0 : Int32)) := f5.other W8 (Or.inr (slot_ne (Or.inr (hw _ (List.mem_of_getElem? (i := 14) rfl))) (Or.inr (hw _ (List.mem_of_getElem? (i := 12) rfl))) (by decide) (t := .int) (t' := .int) (by decide) (by decide)))
  have f12 : Fld Z h8 a1 "com/example/coverbill/coverbill/charge/ChargeRunResult" "endDatesChanged" "I" (.int (0 : Int32)) := f6.other W8 (Or.inr (slot_ne (Or.inr (hw _ (List.mem_of_getElem? (i := 16) rfl))) (Or.inr (hw _ (List.mem_of_getElem? (i := 12) rfl))) (by decide) (t := .int) (t' := .int) (by decide) (by decide)))
  have f13 : Fld Z h8 a1 "com/example/coverbill/coverbill/charge/ChargeRunResult" "chargesCanceled" "I" (.int (0 : Int32)) := f7.other W8 (Or.inr (slot_ne (Or.inr (hw _ (List.mem_of_getElem? (i := 18) rfl))) (Or.inr (hw _ (List.mem_of_getElem? (i := 12) rfl))) (by decide) (t := .int) (t' := .int) (by decide) (by decide)))
  have N8 := Fr.snoc X8 N2 g_a1
  have Z8 : n0 ≤ h8.size := Nat.le_trans Z2 (Keep.of_wr W8).1
  have K8 : Keep h0 h8 [a1] := K2.wr W8 (Or.inl (List.mem_of_getElem? (i := 0) rfl))
  refine own_st st8 ?_
  show own_Go p e below K (T8.setTop (mkF m 14 #[.val (.ref a1), .val (.int p2), .val (.int p3), .val (.int p4), .val (.int p5), .val (.int p6)] []))
  refine own_st (fun t k => XS.aloadN X8.here hx rfl (hb hby d1_14) rfl rfl k) ?_
  show own_Go p e below K (T8.setTop (mkF m 15 #[.val (.ref a1), .val (.int p2), .val (.int p3), .val (.int p4), .val (.int p5), .val (.int p6)] [(.ref a1)]))
  refine own_st (fun t k => XS.iloadN X8.here hx rfl (hb hby d1_15) rfl k) ?_
  show own_Go p e below K (T8.setTop (mkF m 16 #[.val (.ref a1), .val (.int p2), .val (.int p3), .val (.int p4), .val (.int p5), .val (.int p6)] [(.int p4), (.ref a1)]))
  obtain ⟨T14, h14, X14, e14, W14, st14⟩ := putF X8 hx hZ hown (host := "") (Or.inl (hw _ (List.mem_of_getElem? (i := 13) rfl))) Via.refl e8 f11 f9 (Or.inr ⟨(hw _ (List.mem_of_getElem? (i := 14) rfl)), rfl, hnm⟩) (hw _ (List.mem_of_getElem? (i := 1) rfl)) (ty := .int) (by decide) rfl rfl (g := (mkF m 16 #[.val (.ref a1), .val (.int p2), .val (.int p3), .val (.int p4), .val (.int p5), .val (.int p6)] [(.int p4), (.ref a1)])) rfl rfl (hb hby d1_16)
  have fw14 : Fld Z h14 a1 "com/example/coverbill/coverbill/charge/ChargeRunResult" "chargesCreated" "I" (.int p4) := f11.same W14
  have f15 : Exa Z h14 a1 "com/example/coverbill/coverbill/charge/ChargeRunResult" := f9.wr W14
  have f16 : Fld Z h14 a1 "com/example/coverbill/coverbill/charge/ChargeRunResult" "complete" "I" (.int p2) := f10.other W14 (Or.inr (slot_ne (Or.inr (hw _ (List.mem_of_getElem? (i := 10) rfl))) (Or.inr (hw _ (List.mem_of_getElem? (i := 14) rfl))) (by decide) (t := .int) (t' := .int) (by decide) (by decide)))
  have f17 : Fld Z h14 a1 "com/example/coverbill/coverbill/charge/ChargeRunResult" "error" "I" (.int p3) := fw8.other W14 (Or.inr (slot_ne (Or.inr (hw _ (List.mem_of_getElem? (i := 12) rfl))) (Or.inr (hw _ (List.mem_of_getElem? (i := 14) rfl))) (by decide) (t := .int) (t' := .int) (by decide) (by decide)))
  have f18 : Fld Z h14 a1 "com/example/coverbill/coverbill/charge/ChargeRunResult" "endDatesChanged" "I" (.int (0 : Int32)) := f12.other W14 (Or.inr (slot_ne (Or.inr (hw _ (List.mem_of_getElem? (i := 16) rfl))) (Or.inr (hw _ (List.mem_of_getElem? (i := 14) rfl))) (by decide) (t := .int) (t' := .int) (by decide) (by decide)))
  have f19 : Fld Z h14 a1 "com/example/coverbill/coverbill/charge/ChargeRunResult" "chargesCanceled" "I" (.int (0 : Int32)) := f13.other W14 (Or.inr (slot_ne (Or.inr (hw _ (List.mem_of_getElem? (i := 18) rfl))) (Or.inr (hw _ (List.mem_of_getElem? (i := 14) rfl))) (by decide) (t := .int) (t' := .int) (by decide) (by decide)))
  have N14 := Fr.snoc X14 N8 g_a1
  have Z14 : n0 ≤ h14.size := Nat.le_trans Z8 (Keep.of_wr W14).1
  have K14 : Keep h0 h14 [a1] := K8.wr W14 (Or.inl (List.mem_of_getElem? (i := 0) rfl))
  refine own_st st14 ?_
  show own_Go p e below K (T14.setTop (mkF m 19 #[.val (.ref a1), .val (.int p2), .val (.int p3), .val (.int p4), .val (.int p5), .val (.int p6)] []))
  refine own_st (fun t k => XS.aloadN X14.here hx rfl (hb hby d1_19) rfl rfl k) ?_
  show own_Go p e below K (T14.setTop (mkF m 20 #[.val (.ref a1), .val (.int p2), .val (.int p3), .val (.int p4), .val (.int p5), .val (.int p6)] [(.ref a1)]))
  refine own_st (fun t k => XS.iload X14.here hx rfl (hb hby d1_20) rfl k) ?_
  show own_Go p e below K (T14.setTop (mkF m 22 #[.val (.ref a1), .val (.int p2), .val (.int p3), .val (.int p4), .val (.int p5), .val (.int p6)] [(.int p5), (.ref a1)]))
  obtain ⟨T20, h20, X20, e20, W20, st20⟩ := putF X14 hx hZ hown (host := "") (Or.inl (hw _ (List.mem_of_getElem? (i := 15) rfl))) Via.refl e14 f18 f15 (Or.inr ⟨(hw _ (List.mem_of_getElem? (i := 16) rfl)), rfl, hnm⟩) (hw _ (List.mem_of_getElem? (i := 1) rfl)) (ty := .int) (by decide) rfl rfl (g := (mkF m 22 #[.val (.ref a1), .val (.int p2), .val (.int p3), .val (.int p4), .val (.int p5), .val (.int p6)] [(.int p5), (.ref a1)])) rfl rfl (hb hby d1_22)
  have fw20 : Fld Z h20 a1 "com/example/coverbill/coverbill/charge/ChargeRunResult" "endDatesChanged" "I" (.int p5) := f18.same W20
  have f21 : Exa Z h20 a1 "com/example/coverbill/coverbill/charge/ChargeRunResult" := f15.wr W20
  have f22 : Fld Z h20 a1 "com/example/coverbill/coverbill/charge/ChargeRunResult" "complete" "I" (.int p2) := f16.other W20 (Or.inr (slot_ne (Or.inr (hw _ (List.mem_of_getElem? (i := 10) rfl))) (Or.inr (hw _ (List.mem_of_getElem? (i := 16) rfl))) (by decide) (t := .int) (t' := .int) (by decide) (by decide)))
  have f23 : Fld Z h20 a1 "com/example/coverbill/coverbill/charge/ChargeRunResult" "error" "I" (.int p3) := f17.other W20 (Or.inr (slot_ne (Or.inr (hw _ (List.mem_of_getElem? (i := 12) rfl))) (Or.inr (hw _ (List.mem_of_getElem? (i := 16) rfl))) (by decide) (t := .int) (t' := .int) (by decide) (by decide)))
  have f24 : Fld Z h20 a1 "com/example/coverbill/coverbill/charge/ChargeRunResult" "chargesCreated" "I" (.int p4) := fw14.other W20 (Or.inr (slot_ne (Or.inr (hw _ (List.mem_of_getElem? (i := 14) rfl))) (Or.inr (hw _ (List.mem_of_getElem? (i := 16) rfl))) (by decide) (t := .int) (t' := .int) (by decide) (by decide)))
  have f25 : Fld Z h20 a1 "com/example/coverbill/coverbill/charge/ChargeRunResult" "chargesCanceled" "I" (.int (0 : Int32)) := f19.other W20 (Or.inr (slot_ne (Or.inr (hw _ (List.mem_of_getElem? (i := 18) rfl))) (Or.inr (hw _ (List.mem_of_getElem? (i := 16) rfl))) (by decide) (t := .int) (t' := .int) (by decide) (by decide)))
  have N20 := Fr.snoc X20 N14 g_a1
  have Z20 : n0 ≤ h20.size := Nat.le_trans Z14 (Keep.of_wr W20).1
  have K20 : Keep h0 h20 [a1] := K14.wr W20 (Or.inl (List.mem_of_getElem? (i := 0) rfl))
  refine own_st st20 ?_
  show own_Go p e below K (T20.setTop (mkF m 25 #[.val (.ref a1), .val (.int p2), .val (.int p3), .val (.int p4), .val (.int p5), .val (.int p6)] []))
  refine own_st (fun t k => XS.aloadN X20.here hx rfl (hb hby d1_25) rfl rfl k) ?_
  show own_Go p e below K (T20.setTop (mkF m 26 #[.val (.ref a1), .val (.int p2), .val (.int p3), .val (.int p4), .val (.int p5), .val (.int p6)] [(.ref a1)]))
  refine own_st (fun t k => XS.iload X20.here hx rfl (hb hby d1_26) rfl k) ?_
  show own_Go p e below K (T20.setTop (mkF m 28 #[.val (.ref a1), .val (.int p2), .val (.int p3), .val (.int p4), .val (.int p5), .val (.int p6)] [(.int p6), (.ref a1)]))
  obtain ⟨T26, h26, X26, e26, W26, st26⟩ := putF X20 hx hZ hown (host := "") (Or.inl (hw _ (List.mem_of_getElem? (i := 17) rfl))) Via.refl e20 f25 f21 (Or.inr ⟨(hw _ (List.mem_of_getElem? (i := 18) rfl)), rfl, hnm⟩) (hw _ (List.mem_of_getElem? (i := 1) rfl)) (ty := .int) (by decide) rfl rfl (g := (mkF m 28 #[.val (.ref a1), .val (.int p2), .val (.int p3), .val (.int p4), .val (.int p5), .val (.int p6)] [(.int p6), (.ref a1)])) rfl rfl (hb hby d1_28)
  have fw26 : Fld Z h26 a1 "com/example/coverbill/coverbill/charge/ChargeRunResult" "chargesCanceled" "I" (.int p6) := f25.same W26
  have f27 : Exa Z h26 a1 "com/example/coverbill/coverbill/charge/ChargeRunResult" := f21.wr W26
  have f28 : Fld Z h26 a1 "com/example/coverbill/coverbill/charge/ChargeRunResult" "complete" "I" (.int p2) := f22.other W26 (Or.inr (slot_ne (Or.inr (hw _ (List.mem_of_getElem? (i := 10) rfl))) (Or.inr (hw _ (List.mem_of_getElem? (i := 18) rfl))) (by decide) (t := .int) (t' := .int) (by decide) (by decide)))
  have f29 : Fld Z h26 a1 "com/example/coverbill/coverbill/charge/ChargeRunResult" "error" "I" (.int p3) := f23.other W26 (Or.inr (slot_ne (Or.inr (hw _ (List.mem_of_getElem? (i := 12) rfl))) (Or.inr (hw _ (List.mem_of_getElem? (i := 18) rfl))) (by decide) (t := .int) (t' := .int) (by decide) (by decide)))
  have f30 : Fld Z h26 a1 "com/example/coverbill/coverbill/charge/ChargeRunResult" "chargesCreated" "I" (.int p4) := f24.other W26 (Or.inr (slot_ne (Or.inr (hw _ (List.mem_of_getElem? (i := 14) rfl))) (Or.inr (hw _ (List.mem_of_getElem? (i := 18) rfl))) (by decide) (t := .int) (t' := .int) (by decide) (by decide)))
  have f31 : Fld Z h26 a1 "com/example/coverbill/coverbill/charge/ChargeRunResult" "endDatesChanged" "I" (.int p5) := fw20.other W26 (Or.inr (slot_ne (Or.inr (hw _ (List.mem_of_getElem? (i := 16) rfl))) (Or.inr (hw _ (List.mem_of_getElem? (i := 18) rfl))) (by decide) (t := .int) (t' := .int) (by decide) (by decide)))
  have N26 := Fr.snoc X26 N20 g_a1
  have Z26 : n0 ≤ h26.size := Nat.le_trans Z20 (Keep.of_wr W26).1
  have K26 : Keep h0 h26 [a1] := K20.wr W26 (Or.inl (List.mem_of_getElem? (i := 0) rfl))
  refine own_st st26 ?_
  show own_Go p e below K (T26.setTop (mkF m 31 #[.val (.ref a1), .val (.int p2), .val (.int p3), .val (.int p4), .val (.int p5), .val (.int p6)] []))
  obtain ⟨fs, hr, hrun, hended, hW, hsame⟩ := X26.leave (v := none) (fun _ => rfl)
  refine ⟨_, X26.returnOut hx Bd.returns (hb hby d1_31) hr, fin _ _ _ hrun hended ?_ ⟨⟨_, rfl⟩, hW, hsame.mono (by decide) (by decide)⟩⟩
  show Q1 Z a1 p2 p3 p4 p5 p6 h0 n0 _ T26.heap _
  rw [e26]
  exact ⟨rfl, N26, K26, f27, f28, f29, f30, f31, fw26⟩
theorem d3_0 : decode prog_37_method_2_code 0 = .ok (.new 8, 3) := by decide +kernel
theorem d3_3 : decode prog_37_method_2_code 3 = .ok (.dup, 1) := by decide +kernel
theorem d3_4 : decode prog_37_method_2_code 4 = .ok (.aload_n 0, 1) := by decide +kernel
theorem d3_5 : decode prog_37_method_2_code 5 = .ok (.getfield 7, 3) := by decide +kernel
theorem d3_8 : decode prog_37_method_2_code 8 = .ok (.aload_n 1, 1) := by decide +kernel
theorem d3_9 : decode prog_37_method_2_code 9 = .ok (.getfield 7, 3) := by decide +kernel
theorem d3_12 : decode prog_37_method_2_code 12 = .ok (.iadd, 1) := by decide +kernel
theorem d3_13 : decode prog_37_method_2_code 13 = .ok (.aload_n 0, 1) := by decide +kernel
theorem d3_14 : decode prog_37_method_2_code 14 = .ok (.getfield 13, 3) := by decide +kernel
theorem d3_17 : decode prog_37_method_2_code 17 = .ok (.aload_n 1, 1) := by decide +kernel
theorem d3_18 : decode prog_37_method_2_code 18 = .ok (.getfield 13, 3) := by decide +kernel
theorem d3_21 : decode prog_37_method_2_code 21 = .ok (.iadd, 1) := by decide +kernel
theorem d3_22 : decode prog_37_method_2_code 22 = .ok (.aload_n 0, 1) := by decide +kernel
theorem d3_23 : decode prog_37_method_2_code 23 = .ok (.getfield 16, 3) := by decide +kernel
theorem d3_26 : decode prog_37_method_2_code 26 = .ok (.aload_n 1, 1) := by decide +kernel
theorem d3_27 : decode prog_37_method_2_code 27 = .ok (.getfield 16, 3) := by decide +kernel
theorem d3_30 : decode prog_37_method_2_code 30 = .ok (.iadd, 1) := by decide +kernel
theorem d3_31 : decode prog_37_method_2_code 31 = .ok (.aload_n 0, 1) := by decide +kernel
theorem d3_32 : decode prog_37_method_2_code 32 = .ok (.getfield 19, 3) := by decide +kernel
theorem d3_35 : decode prog_37_method_2_code 35 = .ok (.aload_n 1, 1) := by decide +kernel
theorem d3_36 : decode prog_37_method_2_code 36 = .ok (.getfield 19, 3) := by decide +kernel
theorem d3_39 : decode prog_37_method_2_code 39 = .ok (.iadd, 1) := by decide +kernel
theorem d3_40 : decode prog_37_method_2_code 40 = .ok (.aload_n 0, 1) := by decide +kernel
theorem d3_41 : decode prog_37_method_2_code 41 = .ok (.getfield 22, 3) := by decide +kernel
theorem d3_44 : decode prog_37_method_2_code 44 = .ok (.aload_n 1, 1) := by decide +kernel
theorem d3_45 : decode prog_37_method_2_code 45 = .ok (.getfield 22, 3) := by decide +kernel
theorem d3_48 : decode prog_37_method_2_code 48 = .ok (.iadd, 1) := by decide +kernel
theorem d3_49 : decode prog_37_method_2_code 49 = .ok (.invokespecial 25, 3) := by decide +kernel
theorem d3_52 : decode prog_37_method_2_code 52 = .ok (.areturn, 1) := by decide +kernel
theorem pn_3 : plainName "com/example/coverbill/coverbill/charge/ChargeRunResult" = true := by first | (simp [plainName, overriddenIn]; done) | decide +kernel
theorem pd_3_0 : parseMethodDescriptor "(IIIII)V" = some ⟨[.int, .int, .int, .int, .int], none⟩ := by decide +kernel
theorem ef_3 (m : MethodId) (x0 : Addr) (x1 : Addr) : entryFrame m #[(.ref x0), (.ref x1)] 2 = mkF m 0 #[.val (.ref x0), .val (.ref x1)] [] := by first | (simp [entryFrame, mkF, argsToLocals, Value.category]; done) | rfl
def Q3 (Z : State) (a1 : Addr) (a2 : Addr) (u0 : Int32) (u1 : Int32) (u2 : Int32) (u3 : Int32) (u4 : Int32) (v0 : Int32) (v1 : Int32) (v2 : Int32) (v3 : Int32) (v4 : Int32) (h0 : Heap) (n0 : Nat) (v : Option Value) (h : Heap) (L : List Loc) : Prop := ∃ (r : Addr), v = some (.ref r) ∧ (True) ∧ h0.size ≤ r ∧ Fr n0 L ∧ Keep h0 h [] ∧ (Exa Z h r "com/example/coverbill/coverbill/charge/ChargeRunResult") ∧ (Fld Z h r "com/example/coverbill/coverbill/charge/ChargeRunResult" "complete" "I" (.int (u0 + v0))) ∧ (Fld Z h r "com/example/coverbill/coverbill/charge/ChargeRunResult" "error" "I" (.int (u1 + v1))) ∧ (Fld Z h r "com/example/coverbill/coverbill/charge/ChargeRunResult" "chargesCreated" "I" (.int (u2 + v2))) ∧ (Fld Z h r "com/example/coverbill/coverbill/charge/ChargeRunResult" "endDatesChanged" "I" (.int (u3 + v3))) ∧ (Fld Z h r "com/example/coverbill/coverbill/charge/ChargeRunResult" "chargesCanceled" "I" (.int (u4 + v4)))
set_option maxRecDepth 65536 in
set_option maxHeartbeats 40000000 in
theorem rm3 (l : Launch) (Z : State) (a0 : Array Value) (hw : ∀ d ∈ tables_1, d.before a0 Z = true) (ws : List Jvm.Cond) (a1 : Addr) (a2 : Addr) (u0 : Int32) (u1 : Int32) (u2 : Int32) (u3 : Int32) (u4 : Int32) (v0 : Int32) (v1 : Int32) (v2 : Int32) (v3 : Int32) (v4 : Int32) (h0 : Heap) (n0 : Nat) (Z0 : n0 ≤ h0.size) (P0 : Fld Z h0 a1 "com/example/coverbill/coverbill/charge/ChargeRunResult" "complete" "I" (.int u0)) (P1 : Fld Z h0 a1 "com/example/coverbill/coverbill/charge/ChargeRunResult" "error" "I" (.int u1)) (P2 : Fld Z h0 a1 "com/example/coverbill/coverbill/charge/ChargeRunResult" "chargesCreated" "I" (.int u2)) (P3 : Fld Z h0 a1 "com/example/coverbill/coverbill/charge/ChargeRunResult" "endDatesChanged" "I" (.int u3)) (P4 : Fld Z h0 a1 "com/example/coverbill/coverbill/charge/ChargeRunResult" "chargesCanceled" "I" (.int u4)) (P5 : Fld Z h0 a2 "com/example/coverbill/coverbill/charge/ChargeRunResult" "complete" "I" (.int v0)) (P6 : Fld Z h0 a2 "com/example/coverbill/coverbill/charge/ChargeRunResult" "error" "I" (.int v1)) (P7 : Fld Z h0 a2 "com/example/coverbill/coverbill/charge/ChargeRunResult" "chargesCreated" "I" (.int v2)) (P8 : Fld Z h0 a2 "com/example/coverbill/coverbill/charge/ChargeRunResult" "endDatesChanged" "I" (.int v3)) (P9 : Fld Z h0 a2 "com/example/coverbill/coverbill/charge/ChargeRunResult" "chargesCanceled" "I" (.int v4)) :
    MetFree l (⟨"com/example/coverbill/coverbill/charge/ChargeRunResult", "plus", "(Lcom/example/coverbill/coverbill/charge/ChargeRunResult;)Lcom/example/coverbill/coverbill/charge/ChargeRunResult;"⟩ : MethodName) (head1 (Jvm.Cond.code (⟨"com/example/coverbill/coverbill/charge/ChargeRunResult", "plus", "(Lcom/example/coverbill/coverbill/charge/ChargeRunResult;)Lcom/example/coverbill/coverbill/charge/ChargeRunResult;"⟩ : MethodName) prog_37_method_2_code 2 (some (.object "com/example/coverbill/coverbill/charge/ChargeRunResult")) :: ws) ({ frames := 2, cells := 1, slots := 5, locals := 30 } : Room)) (fun a U => a = #[(.ref a1), (.ref a2)] ∧ Z.Warmed39 U.vm ∧ U.heap = h0) (fun _ _ _ _ _ => True) (fun _ U o U' => ∃ v L, o = .returned v ∧ Q3 Z a1 a2 u0 u1 u2 u3 u4 v0 v1 v2 v3 v4 h0 n0 v U'.heap L ∧ FrameEnd U o U' L ({ frames := 2, cells := 1, slots := 5, locals := 30 } : Room).cells ({ frames := 2, cells := 1, slots := 5, locals := 30 } : Room).slots) := by
  refine MetFree.of_bodySF (plainFor_of_name pn_3) hisR ?_
  intro p e s m args below meth c s₁ Bd hml0 hP hK
  obtain ⟨rfl, hZ, hh⟩ := hP
  have hx := Bd.exec
  have hby := Bd.bytes
  have hml : c.maxLocals = 2 := hml0
  have hown : s.vm.findClass "com/example/coverbill/coverbill/charge/ChargeRunResult" = some m.cls := findClass_of_methodNamed Bd.named
  have hnm := (name_of_methodNamed Bd.named Bd.method).1
  have X0 : Stand p l e ({ frames := 2, cells := 1, slots := 5, locals := 30 } : Room) s m #[(.ref a1), (.ref a2)] below meth c s₁ [] 0 0 := Stand.of_body Bd
  have e0 : s₁.heap = h0 := by rw [← hh, Bd.state]; rfl
  have N0 := Fr.nil n0
  suffices G0 : ∀ K : State → Prop, (∀ (n : State) (v : Option Value) (L : List Loc), n.status = .running → Ended n below (.returned v) → Q3 Z a1 a2 u0 u1 u2 u3 u4 v0 v1 v2 v3 v4 h0 n0 v n.heap L → FrameEnd s (.returned v) n L ({ frames := 2, cells := 1, slots := 5, locals := 30 } : Room).cells ({ frames := 2, cells := 1, slots := 5, locals := 30 } : Room).slots → K n) → own_Go p e below K (s₁.setTop (mkF m 0 #[.val (.ref a1), .val (.ref a2)] [])) by
    obtain ⟨t, st, o, a, b, v, L, e1, q, fe⟩ := G0 (fun n => ∃ o, n.status = .running ∧ Ended n below o ∧ ∃ v L, o = .returned v ∧ Q3 Z a1 a2 u0 u1 u2 u3 u4 v0 v1 v2 v3 v4 h0 n0 v n.heap L ∧ FrameEnd s o n L ({ frames := 2, cells := 1, slots := 5, locals := 30 } : Room).cells ({ frames := 2, cells := 1, slots := 5, locals := 30 } : Room).slots) (fun n v L a b q f => ⟨_, a, b, v, L, rfl, q, f⟩)
    exact ⟨t, o, castTop (ef_3 m a1 a2) st, a, b, v, L, e1, q, fe⟩
  intro K fin
  show own_Go p e below K (s₁.setTop (mkF m 0 #[.val (.ref a1), .val (.ref a2)] []))
  obtain ⟨T1, h1, X1, e1, E1, A1, D1, -, st1⟩ := newO X0 hx hZ hown (hw _ (List.mem_of_getElem? (i := 24) rfl)) (hw _ (List.mem_of_getElem? (i := 1) rfl)) (hw _ (List.mem_of_getElem? (i := 2) rfl)) e0 (g := (mkF m 0 #[.val (.ref a1), .val (.ref a2)] [])) rfl (hb hby d3_0) (by decide) (by decide)
  obtain ⟨b1, g1⟩ : ∃ z, z = h0.size := ⟨_, rfl⟩
  rw [← g1] at A1 D1 st1
  have ne_a1_b1 : a1 ≠ b1 := Nat.ne_of_lt (Nat.lt_of_lt_of_le P0.lt (Nat.le_of_eq g1.symm))
  have ne_a2_b1 : a2 ≠ b1 := Nat.ne_of_lt (Nat.lt_of_lt_of_le P5.lt (Nat.le_of_eq g1.symm))
  have g_b1 : n0 ≤ b1 := Nat.le_trans Z0 (Nat.le_of_eq g1.symm)
  have sz_b1 : h0.size ≤ b1 := Nat.le_trans (Keep.refl h0 []).1 (Nat.le_of_eq g1.symm)
  have f2 : Fld Z h1 a1 "com/example/coverbill/coverbill/charge/ChargeRunResult" "complete" "I" (.int u0) := P0.ext E1
  have f3 : Fld Z h1 a1 "com/example/coverbill/coverbill/charge/ChargeRunResult" "error" "I" (.int u1) := P1.ext E1
  have f4 : Fld Z h1 a1 "com/example/coverbill/coverbill/charge/ChargeRunResult" "chargesCreated" "I" (.int u2) := P2.ext E1
  have f5 : Fld Z h1 a1 "com/example/coverbill/coverbill/charge/ChargeRunResult" "endDatesChanged" "I" (.int u3) := P3.ext E1
  have f6 : Fld Z h1 a1 "com/example/coverbill/coverbill/charge/ChargeRunResult" "chargesCanceled" "I" (.int u4) := P4.ext E1
  have f7 : Fld Z h1 a2 "com/example/coverbill/coverbill/charge/ChargeRunResult" "complete" "I" (.int v0) := P5.ext E1
  have f8 : Fld Z h1 a2 "com/example/coverbill/coverbill/charge/ChargeRunResult" "error" "I" (.int v1) := P6.ext E1
  have f9 : Fld Z h1 a2 "com/example/coverbill/coverbill/charge/ChargeRunResult" "chargesCreated" "I" (.int v2) := P7.ext E1
  have f10 : Fld Z h1 a2 "com/example/coverbill/coverbill/charge/ChargeRunResult" "endDatesChanged" "I" (.int v3) := P8.ext E1
  have f11 : Fld Z h1 a2 "com/example/coverbill/coverbill/charge/ChargeRunResult" "chargesCanceled" "I" (.int v4) := P9.ext E1
  have f12 : Fld Z h1 b1 "com/example/coverbill/coverbill/charge/ChargeRunResult" "complete" "I" (.int (0 : Int32)) := D1 (Or.inr (hw _ (List.mem_of_getElem? (i := 10) rfl))) (ty := .int) (by decide)
  have f13 : Fld Z h1 b1 "com/example/coverbill/coverbill/charge/ChargeRunResult" "error" "I" (.int (0 : Int32)) := D1 (Or.inr (hw _ (List.mem_of_getElem? (i := 12) rfl))) (ty := .int) (by decide)
  have f14 : Fld Z h1 b1 "com/example/coverbill/coverbill/charge/ChargeRunResult" "chargesCreated" "I" (.int (0 : Int32)) := D1 (Or.inr (hw _ (List.mem_of_getElem? (i := 14) rfl))) (ty := .int) (by decide)
  have f15 : Fld Z h1 b1 "com/example/coverbill/coverbill/charge/ChargeRunResult" "endDatesChanged" "I" (.int (0 : Int32)) := D1 (Or.inr (hw _ (List.mem_of_getElem? (i := 16) rfl))) (ty := .int) (by decide)
  have f16 : Fld Z h1 b1 "com/example/coverbill/coverbill/charge/ChargeRunResult" "chargesCanceled" "I" (.int (0 : Int32)) := D1 (Or.inr (hw _ (List.mem_of_getElem? (i := 18) rfl))) (ty := .int) (by decide)
  have Z1 : n0 ≤ h1.size := Nat.le_trans Z0 E1.1
  have K1 : Keep h0 h1 [] := (Keep.refl h0 []).ext E1
  refine own_st st1 ?_
  show own_Go p e below K (T1.setTop (mkF m 3 #[.val (.ref a1), .val (.ref a2)] [(.ref b1)]))
  refine own_st (fun t k => XS.dup X1.here hx rfl (hb hby d3_3) rfl rfl k) ?_
  show own_Go p e below K (T1.setTop (mkF m 4 #[.val (.ref a1), .val (.ref a2)] [(.ref b1), (.ref b1)]))
  refine own_st (fun t k => XS.aloadN X1.here hx rfl (hb hby d3_4) rfl rfl k) ?_
  show own_Go p e below K (T1.setTop (mkF m 5 #[.val (.ref a1), .val (.ref a2)] [(.ref a1), (.ref b1), (.ref b1)]))
  obtain ⟨T17, X17, e17, st17⟩ := getF X1 hx hZ hown (host := "") (Or.inl (hw _ (List.mem_of_getElem? (i := 9) rfl))) Via.refl e1 f2 (g := (mkF m 5 #[.val (.ref a1), .val (.ref a2)] [(.ref a1), (.ref b1), (.ref b1)])) rfl rfl (hb hby d3_5)
  refine own_st st17 ?_
  show own_Go p e below K (T17.setTop (mkF m 8 #[.val (.ref a1), .val (.ref a2)] [(.int u0), (.ref b1), (.ref b1)]))
  refine own_st (fun t k => XS.aloadN X17.here hx rfl (hb hby d3_8) rfl rfl k) ?_
  show own_Go p e below K (T17.setTop (mkF m 9 #[.val (.ref a1), .val (.ref a2)] [(.ref a2), (.int u0), (.ref b1), (.ref b1)]))
  obtain ⟨T18, X18, e18, st18⟩ := getF X17 hx hZ hown (host := "") (Or.inl (hw _ (List.mem_of_getElem? (i := 9) rfl))) Via.refl e17 f7 (g := (mkF m 9 #[.val (.ref a1), .val (.ref a2)] [(.ref a2), (.int u0), (.ref b1), (.ref b1)])) rfl rfl (hb hby d3_9)
  refine own_st st18 ?_
  show own_Go p e below K (T18.setTop (mkF m 12 #[.val (.ref a1), .val (.ref a2)] [(.int v0), (.int u0), (.ref b1), (.ref b1)]))
  refine own_st (fun t k => XS.iadd X18.here hx rfl (hb hby d3_12) rfl k) ?_
  show own_Go p e below K (T18.setTop (mkF m 13 #[.val (.ref a1), .val (.ref a2)] [(.int (u0 + v0)), (.ref b1), (.ref b1)]))
  refine own_st (fun t k => XS.aloadN X18.here hx rfl (hb hby d3_13) rfl rfl k) ?_
  show own_Go p e below K (T18.setTop (mkF m 14 #[.val (.ref a1), .val (.ref a2)] [(.ref a1), (.int (u0 + v0)), (.ref b1), (.ref b1)]))
  obtain ⟨T19, X19, e19, st19⟩ := getF X18 hx hZ hown (host := "") (Or.inl (hw _ (List.mem_of_getElem? (i := 11) rfl))) Via.refl e18 f3 (g := (mkF m 14 #[.val (.ref a1), .val (.ref a2)] [(.ref a1), (.int (u0 + v0)), (.ref b1), (.ref b1)])) rfl rfl (hb hby d3_14)
  refine own_st st19 ?_
  show own_Go p e below K (T19.setTop (mkF m 17 #[.val (.ref a1), .val (.ref a2)] [(.int u1), (.int (u0 + v0)), (.ref b1), (.ref b1)]))
  refine own_st (fun t k => XS.aloadN X19.here hx rfl (hb hby d3_17) rfl rfl k) ?_
  show own_Go p e below K (T19.setTop (mkF m 18 #[.val (.ref a1), .val (.ref a2)] [(.ref a2), (.int u1), (.int (u0 + v0)), (.ref b1), (.ref b1)]))
  obtain ⟨T20, X20, e20, st20⟩ := getF X19 hx hZ hown (host := "") (Or.inl (hw _ (List.mem_of_getElem? (i := 11) rfl))) Via.refl e19 f8 (g := (mkF m 18 #[.val (.ref a1), .val (.ref a2)] [(.ref a2), (.int u1), (.int (u0 + v0)), (.ref b1), (.ref b1)])) rfl rfl (hb hby d3_18)
  refine own_st st20 ?_
  show own_Go p e below K (T20.setTop (mkF m 21 #[.val (.ref a1), .val (.ref a2)] [(.int v1), (.int u1), (.int (u0 + v0)), (.ref b1), (.ref b1)]))
  refine own_st (fun t k => XS.iadd X20.here hx rfl (hb hby d3_21) rfl k) ?_
  show own_Go p e below K (T20.setTop (mkF m 22 #[.val (.ref a1), .val (.ref a2)] [(.int (u1 + v1)), (.int (u0 + v0)), (.ref b1), (.ref b1)]))
  refine own_st (fun t k => XS.aloadN X20.here hx rfl (hb hby d3_22) rfl rfl k) ?_
  show own_Go p e below K (T20.setTop (mkF m 23 #[.val (.ref a1), .val (.ref a2)] [(.ref a1), (.int (u1 + v1)), (.int (u0 + v0)), (.ref b1), (.ref b1)]))
  obtain ⟨T21, X21, e21, st21⟩ := getF X20 hx hZ hown (host := "") (Or.inl (hw _ (List.mem_of_getElem? (i := 13) rfl))) Via.refl e20 f4 (g := (mkF m 23 #[.val (.ref a1), .val (.ref a2)] [(.ref a1), (.int (u1 + v1)), (.int (u0 + v0)), (.ref b1), (.ref b1)])) rfl rfl (hb hby d3_23)
  refine own_st st21 ?_
  show own_Go p e below K (T21.setTop (mkF m 26 #[.val (.ref a1), .val (.ref a2)] [(.int u2), (.int (u1 + v1)), (.int (u0 + v0)), (.ref b1), (.ref b1)]))
  refine own_st (fun t k => XS.aloadN X21.here hx rfl (hb hby d3_26) rfl rfl k) ?_
  show own_Go p e below K (T21.setTop (mkF m 27 #[.val (.ref a1), .val (.ref a2)] [(.ref a2), (.int u2), (.int (u1 + v1)), (.int (u0 + v0)), (.ref b1), (.ref b1)]))
  obtain ⟨T22, X22, e22, st22⟩ := getF X21 hx hZ hown (host := "") (Or.inl (hw _ (List.mem_of_getElem? (i := 13) rfl))) Via.refl e21 f9 (g := (mkF m 27 #[.val (.ref a1), .val (.ref a2)] [(.ref a2), (.int u2), (.int (u1 + v1)), (.int (u0 + v0)), (.ref b1), (.ref b1)])) rfl rfl (hb hby d3_27)
  refine own_st st22 ?_
  show own_Go p e below K (T22.setTop (mkF m 30 #[.val (.ref a1), .val (.ref a2)] [(.int v2), (.int u2), (.int (u1 + v1)), (.int (u0 + v0)), (.ref b1), (.ref b1)]))
  refine own_st (fun t k => XS.iadd X22.here hx rfl (hb hby d3_30) rfl k) ?_
  show own_Go p e below K (T22.setTop (mkF m 31 #[.val (.ref a1), .val (.ref a2)] [(.int (u2 + v2)), (.int (u1 + v1)), (.int (u0 + v0)), (.ref b1), (.ref b1)]))
  refine own_st (fun t k => XS.aloadN X22.here hx rfl (hb hby d3_31) rfl rfl k) ?_
  show own_Go p e below K (T22.setTop (mkF m 32 #[.val (.ref a1), .val (.ref a2)] [(.ref a1), (.int (u2 + v2)), (.int (u1 + v1)), (.int (u0 + v0)), (.ref b1), (.ref b1)]))
  obtain ⟨T23, X23, e23, st23⟩ := getF X22 hx hZ hown (host := "") (Or.inl (hw _ (List.mem_of_getElem? (i := 15) rfl))) Via.refl e22 f5 (g := (mkF m 32 #[.val (.ref a1), .val (.ref a2)] [(.ref a1), (.int (u2 + v2)), (.int (u1 + v1)), (.int (u0 + v0)), (.ref b1), (.ref b1)])) rfl rfl (hb hby d3_32)
  refine own_st st23 ?_
  show own_Go p e below K (T23.setTop (mkF m 35 #[.val (.ref a1), .val (.ref a2)] [(.int u3), (.int (u2 + v2)), (.int (u1 + v1)), (.int (u0 + v0)), (.ref b1), (.ref b1)]))
  refine own_st (fun t k => XS.aloadN X23.here hx rfl (hb hby d3_35) rfl rfl k) ?_
  show own_Go p e below K (T23.setTop (mkF m 36 #[.val (.ref a1), .val (.ref a2)] [(.ref a2), (.int u3), (.int (u2 + v2)), (.int (u1 + v1)), (.int (u0 + v0)), (.ref b1), (.ref b1)]))
  obtain ⟨T24, X24, e24, st24⟩ := getF X23 hx hZ hown (host := "") (Or.inl (hw _ (List.mem_of_getElem? (i := 15) rfl))) Via.refl e23 f10 (g := (mkF m 36 #[.val (.ref a1), .val (.ref a2)] [(.ref a2), (.int u3), (.int (u2 + v2)), (.int (u1 + v1)), (.int (u0 + v0)), (.ref b1), (.ref b1)])) rfl rfl (hb hby d3_36)
  refine own_st st24 ?_
  show own_Go p e below K (T24.setTop (mkF m 39 #[.val (.ref a1), .val (.ref a2)] [(.int v3), (.int u3), (.int (u2 + v2)), (.int (u1 + v1)), (.int (u0 + v0)), (.ref b1), (.ref b1)]))
  refine own_st (fun t k => XS.iadd X24.here hx rfl (hb hby d3_39) rfl k) ?_
  show own_Go p e below K (T24.setTop (mkF m 40 #[.val (.ref a1), .val (.ref a2)] [(.int (u3 + v3)), (.int (u2 + v2)), (.int (u1 + v1)), (.int (u0 + v0)), (.ref b1), (.ref b1)]))
  refine own_st (fun t k => XS.aloadN X24.here hx rfl (hb hby d3_40) rfl rfl k) ?_
  show own_Go p e below K (T24.setTop (mkF m 41 #[.val (.ref a1), .val (.ref a2)] [(.ref a1), (.int (u3 + v3)), (.int (u2 + v2)), (.int (u1 + v1)), (.int (u0 + v0)), (.ref b1), (.ref b1)]))
  obtain ⟨T25, X25, e25, st25⟩ := getF X24 hx hZ hown (host := "") (Or.inl (hw _ (List.mem_of_getElem? (i := 17) rfl))) Via.refl e24 f6 (g := (mkF m 41 #[.val (.ref a1), .val (.ref a2)] [(.ref a1), (.int (u3 + v3)), (.int (u2 + v2)), (.int (u1 + v1)), (.int (u0 + v0)), (.ref b1), (.ref b1)])) rfl rfl (hb hby d3_41)
  refine own_st st25 ?_
  show own_Go p e below K (T25.setTop (mkF m 44 #[.val (.ref a1), .val (.ref a2)] [(.int u4), (.int (u3 + v3)), (.int (u2 + v2)), (.int (u1 + v1)), (.int (u0 + v0)), (.ref b1), (.ref b1)]))
  refine own_st (fun t k => XS.aloadN X25.here hx rfl (hb hby d3_44) rfl rfl k) ?_
  show own_Go p e below K (T25.setTop (mkF m 45 #[.val (.ref a1), .val (.ref a2)] [(.ref a2), (.int u4), (.int (u3 + v3)), (.int (u2 + v2)), (.int (u1 + v1)), (.int (u0 + v0)), (.ref b1), (.ref b1)]))
  obtain ⟨T26, X26, e26, st26⟩ := getF X25 hx hZ hown (host := "") (Or.inl (hw _ (List.mem_of_getElem? (i := 17) rfl))) Via.refl e25 f11 (g := (mkF m 45 #[.val (.ref a1), .val (.ref a2)] [(.ref a2), (.int u4), (.int (u3 + v3)), (.int (u2 + v2)), (.int (u1 + v1)), (.int (u0 + v0)), (.ref b1), (.ref b1)])) rfl rfl (hb hby d3_45)
  refine own_st st26 ?_
  show own_Go p e below K (T26.setTop (mkF m 48 #[.val (.ref a1), .val (.ref a2)] [(.int v4), (.int u4), (.int (u3 + v3)), (.int (u2 + v2)), (.int (u1 + v1)), (.int (u0 + v0)), (.ref b1), (.ref b1)]))
  refine own_st (fun t k => XS.iadd X26.here hx rfl (hb hby d3_48) rfl k) ?_
  show own_Go p e below K (T26.setTop (mkF m 49 #[.val (.ref a1), .val (.ref a2)] [(.int (u4 + v4)), (.int (u3 + v3)), (.int (u2 + v2)), (.int (u1 + v1)), (.int (u0 + v0)), (.ref b1), (.ref b1)]))
  obtain ⟨_, _, ⟨T27, L27, k27, n27⟩, -, X27, ⟨Lc27, hQ27, l27, y27, z27⟩, st27⟩ := X26.specialBack hx (y := (⟨"com/example/coverbill/coverbill/charge/ChargeRunResult", "<init>", "(IIIII)V"⟩ : MethodName)) rfl hown (mvT hZ (hw _ (List.mem_of_getElem? (i := 25) rfl))) (mvT hZ (hw _ (List.mem_of_getElem? (i := 4) rfl))) (mvT hZ (hw _ (List.mem_of_getElem? (i := 5) rfl))) (by decide) (backOf (W := 1) (rm1 l Z a0 hw [] b1 (u0 + v0) (u1 + v1) (u2 + v2) (u3 + v3) (u4 + v4) h1 n0 Z1 g_b1 A1 f12 f13 f14 f15 f16) hZ (hw _ (List.mem_of_getElem? (i := 5) rfl)) (hw _ (List.mem_of_getElem? (i := 2) rfl)) (by decide) (by decide)) (g := (mkF m 49 #[.val (.ref a1), .val (.ref a2)] [(.int (u4 + v4)), (.int (u3 + v3)), (.int (u2 + v2)), (.int (u1 + v1)), (.int (u0 + v0)), (.ref b1), (.ref b1)])) rfl (by rw [hml]; rfl) (Steps.refl _) (a := b1) (argsL := [(.int (u0 + v0)), (.int (u1 + v1)), (.int (u2 + v2)), (.int (u3 + v3)), (.int (u4 + v4))]) (rest := [(.ref b1)]) (lenOf pd_3_0 rfl) rfl (by show 2 * 0 + _ ≤ _; exact Nat.le_of_eq rfl) (hb hby d3_49) (fun _ _ => ⟨rfl, e26, (by decide : 1 + 0 ≤ _), (by decide : 5 + 0 ≤ _)⟩)
  dsimp only [Pt.U, Pt.locs, Pt.cells, Pt.slots] at X27 l27 y27 z27 st27 hQ27
  subst l27 y27 z27
  obtain ⟨rfl, N27q, Kq27, p27_0, p27_1, p27_2, p27_3, p27_4, p27_5⟩ := hQ27
  have N27 := Fr.app N0 N27q
  have f28 : Fld Z T27.heap a1 "com/example/coverbill/coverbill/charge/ChargeRunResult" "complete" "I" (.int u0) := f2.keep Kq27 (ninS ne_a1_b1 nin0)
  have f29 : Fld Z T27.heap a1 "com/example/coverbill/coverbill/charge/ChargeRunResult" "error" "I" (.int u1) := f3.keep Kq27 (ninS ne_a1_b1 nin0)
  have f30 : Fld Z T27.heap a1 "com/example/coverbill/coverbill/charge/ChargeRunResult" "chargesCreated" "I" (.int u2) := f4.keep Kq27 (ninS ne_a1_b1 nin0)
  have f31 : Fld Z T27.heap a1 "com/example/coverbill/coverbill/charge/ChargeRunResult" "endDatesChanged" "I" (.int u3) := f5.keep Kq27 (ninS ne_a1_b1 nin0)
  have f32 : Fld Z T27.heap a1 "com/example/coverbill/coverbill/charge/ChargeRunResult" "chargesCanceled" "I" (.int u4) := f6.keep Kq27 (ninS ne_a1_b1 nin0)
  have f33 : Fld Z T27.heap a2 "com/example/coverbill/coverbill/charge/ChargeRunResult" "complete" "I" (.int v0) := f7.keep Kq27 (ninS ne_a2_b1 nin0)
  have f34 : Fld Z T27.heap a2 "com/example/coverbill/coverbill/charge/ChargeRunResult" "error" "I" (.int v1) := f8.keep Kq27 (ninS ne_a2_b1 nin0)
  have f35 : Fld Z T27.heap a2 "com/example/coverbill/coverbill/charge/ChargeRunResult" "chargesCreated" "I" (.int v2) := f9.keep Kq27 (ninS ne_a2_b1 nin0)
  have f36 : Fld Z T27.heap a2 "com/example/coverbill/coverbill/charge/ChargeRunResult" "endDatesChanged" "I" (.int v3) := f10.keep Kq27 (ninS ne_a2_b1 nin0)
  have f37 : Fld Z T27.heap a2 "com/example/coverbill/coverbill/charge/ChargeRunResult" "chargesCanceled" "I" (.int v4) := f11.keep Kq27 (ninS ne_a2_b1 nin0)
  have Z27 : n0 ≤ T27.heap.size := Nat.le_trans Z1 Kq27.1
  have K27 : Keep h0 T27.heap [] := K1.trans Kq27 (allS (P := fun x => x ∈ [] ∨ h0.size ≤ x) (Or.inr sz_b1) all0)
  refine own_tr st27 ?_
  show own_Go p e below K (T27.setTop (mkF m 52 #[.val (.ref a1), .val (.ref a2)] [(.ref b1)]))
  obtain ⟨fs, hr, hrun, hended, hW, hsame⟩ := X27.leave (v := some (.ref b1)) (fun h => by rw [Bd.returns] at h; cases h)
  refine ⟨_, X27.areturnOut hx rfl Bd.returns rfl (hb hby d3_52) hr, fin _ _ _ hrun hended ?_ ⟨⟨_, rfl⟩, hW, hsame.mono (by decide) (by decide)⟩⟩
  show Q3 Z a1 a2 u0 u1 u2 u3 u4 v0 v1 v2 v3 v4 h0 n0 _ T27.heap _
  exact ⟨_, rfl, trivial, sz_b1, N27, K27, p27_0, p27_1, p27_2, p27_3, p27_4, p27_5⟩
theorem d4_0 : decode prog_37_method_3_code 0 = .ok (.aload_n 0, 1) := by decide +kernel
theorem d4_1 : decode prog_37_method_3_code 1 = .ok (.getfield 7, 3) := by decide +kernel
theorem d4_4 : decode prog_37_method_3_code 4 = .ok (.ireturn, 1) := by decide +kernel
theorem pn_4 : plainName "com/example/coverbill/coverbill/charge/ChargeRunResult" = true := by first | (simp [plainName, overriddenIn]; done) | decide +kernel
theorem ef_4 (m : MethodId) (x0 : Addr) : entryFrame m #[(.ref x0)] 1 = mkF m 0 #[.val (.ref x0)] [] := by first | (simp [entryFrame, mkF, argsToLocals, Value.category]; done) | rfl
def Q4 (Z : State) (a1 : Addr) (u : Int32) (h0 : Heap) (n0 : Nat) (v : Option Value) (h : Heap) (L : List Loc) : Prop := ∃ (r : Int32), v = some (.int r) ∧ (r = u) ∧ Fr n0 L ∧ h = h0
set_option maxRecDepth 65536 in
set_option maxHeartbeats 40000000 in
theorem rm4 (l : Launch) (Z : State) (a0 : Array Value) (hw : ∀ d ∈ tables_1, d.before a0 Z = true) (ws : List Jvm.Cond) (a1 : Addr) (u : Int32) (h0 : Heap) (n0 : Nat) (Z0 : n0 ≤ h0.size) (P0 : Fld Z h0 a1 "com/example/coverbill/coverbill/charge/ChargeRunResult" "complete" "I" (.int u)) :
    MetFree l (⟨"com/example/coverbill/coverbill/charge/ChargeRunResult", "complete", "()I"⟩ : MethodName) (head1 (Jvm.Cond.code (⟨"com/example/coverbill/coverbill/charge/ChargeRunResult", "complete", "()I"⟩ : MethodName) prog_37_method_3_code 1 (some .int) :: ws) ({ frames := 0, cells := 0, slots := 0, locals := 0 } : Room)) (fun a U => a = #[(.ref a1)] ∧ Z.Warmed39 U.vm ∧ U.heap = h0) (fun _ _ _ _ _ => True) (fun _ U o U' => ∃ v L, o = .returned v ∧ Q4 Z a1 u h0 n0 v U'.heap L ∧ FrameEnd U o U' L ({ frames := 0, cells := 0, slots := 0, locals := 0 } : Room).cells ({ frames := 0, cells := 0, slots := 0, locals := 0 } : Room).slots) := by
  refine MetFree.of_bodySF (plainFor_of_name pn_4) hisR ?_
  intro p e s m args below meth c s₁ Bd hml0 hP hK
  obtain ⟨rfl, hZ, hh⟩ := hP
  have hx := Bd.exec
  have hby := Bd.bytes
  have hml : c.maxLocals = 1 := hml0
  have hown : s.vm.findClass "com/example/coverbill/coverbill/charge/ChargeRunResult" = some m.cls := findClass_of_methodNamed Bd.named
  have hnm := (name_of_methodNamed Bd.named Bd.method).1
  have X0 : Stand p l e ({ frames := 0, cells := 0, slots := 0, locals := 0 } : Room) s m #[(.ref a1)] below meth c s₁ [] 0 0 := Stand.of_body Bd
  have e0 : s₁.heap = h0 := by rw [← hh, Bd.state]; rfl
  have N0 := Fr.nil n0
  suffices G0 : ∀ K : State → Prop, (∀ (n : State) (v : Option Value) (L : List Loc), n.status = .running → Ended n below (.returned v) → Q4 Z a1 u h0 n0 v n.heap L → FrameEnd s (.returned v) n L ({ frames := 0, cells := 0, slots := 0, locals := 0 } : Room).cells ({ frames := 0, cells := 0, slots := 0, locals := 0 } : Room).slots → K n) → own_Go p e below K (s₁.setTop (mkF m 0 #[.val (.ref a1)] [])) by
    obtain ⟨t, st, o, a, b, v, L, e1, q, fe⟩ := G0 (fun n => ∃ o, n.status = .running ∧ Ended n below o ∧ ∃ v L, o = .returned v ∧ Q4 Z a1 u h0 n0 v n.heap L ∧ FrameEnd s o n L ({ frames := 0, cells := 0, slots := 0, locals := 0 } : Room).cells ({ frames := 0, cells := 0, slots := 0, locals := 0 } : Room).slots) (fun n v L a b q f => ⟨_, a, b, v, L, rfl, q, f⟩)
    exact ⟨t, o, castTop (ef_4 m a1) st, a, b, v, L, e1, q, fe⟩
  intro K fin
  show own_Go p e below K (s₁.setTop (mkF m 0 #[.val (.ref a1)] []))
  refine own_st (fun t k => XS.aloadN X0.here hx rfl (hb hby d4_0) rfl rfl k) ?_
  show own_Go p e below K (s₁.setTop (mkF m 1 #[.val (.ref a1)] [(.ref a1)]))
  obtain ⟨T1, X1, e1, st1⟩ := getF X0 hx hZ hown (host := "") (Or.inl (hw _ (List.mem_of_getElem? (i := 9) rfl))) Via.refl e0 P0 (g := (mkF m 1 #[.val (.ref a1)] [(.ref a1)])) rfl rfl (hb hby d4_1)
  refine own_st st1 ?_
  show own_Go p e below K (T1.setTop (mkF m 4 #[.val (.ref a1)] [(.int u)]))
  obtain ⟨fs, hr, hrun, hended, hW, hsame⟩ := X1.leave (v := some (.int u)) (fun h => by rw [Bd.returns] at h; cases h)
  refine ⟨_, retI X1 hx Bd.returns (hb hby d4_4) hr, fin _ _ _ hrun hended ?_ ⟨⟨_, rfl⟩, hW, hsame.mono (by decide) (by decide)⟩⟩
  show Q4 Z a1 u h0 n0 _ T1.heap _
  rw [e1]
  exact ⟨_, rfl, rfl, N0, rfl⟩
theorem d6_0 : decode prog_37_method_4_code 0 = .ok (.aload_n 0, 1) := by decide +kernel
theorem d6_1 : decode prog_37_method_4_code 1 = .ok (.getfield 13, 3) := by decide +kernel
theorem d6_4 : decode prog_37_method_4_code 4 = .ok (.ireturn, 1) := by decide +kernel
theorem pn_6 : plainName "com/example/coverbill/coverbill/charge/ChargeRunResult" = true := by first | (simp [plainName, overriddenIn]; done) | decide +kernel
theorem ef_6 (m : MethodId) (x0 : Addr) : entryFrame m #[(.ref x0)] 1 = mkF m 0 #[.val (.ref x0)] [] := by first | (simp [entryFrame, mkF, argsToLocals, Value.category]; done) | rfl
def Q6 (Z : State) (a1 : Addr) (u : Int32) (h0 : Heap) (n0 : Nat) (v : Option Value) (h : Heap) (L : List Loc) : Prop := ∃ (r : Int32), v = some (.int r) ∧ (r = u) ∧ Fr n0 L ∧ h = h0
set_option maxRecDepth 65536 in
set_option maxHeartbeats 40000000 in
theorem rm6 (l : Launch) (Z : State) (a0 : Array Value) (hw : ∀ d ∈ tables_1, d.before a0 Z = true) (ws : List Jvm.Cond) (a1 : Addr) (u : Int32) (h0 : Heap) (n0 : Nat) (Z0 : n0 ≤ h0.size) (P0 : Fld Z h0 a1 "com/example/coverbill/coverbill/charge/ChargeRunResult" "error" "I" (.int u)) :
    MetFree l (⟨"com/example/coverbill/coverbill/charge/ChargeRunResult", "error", "()I"⟩ : MethodName) (head1 (Jvm.Cond.code (⟨"com/example/coverbill/coverbill/charge/ChargeRunResult", "error", "()I"⟩ : MethodName) prog_37_method_4_code 1 (some .int) :: ws) ({ frames := 0, cells := 0, slots := 0, locals := 0 } : Room)) (fun a U => a = #[(.ref a1)] ∧ Z.Warmed39 U.vm ∧ U.heap = h0) (fun _ _ _ _ _ => True) (fun _ U o U' => ∃ v L, o = .returned v ∧ Q6 Z a1 u h0 n0 v U'.heap L ∧ FrameEnd U o U' L ({ frames := 0, cells := 0, slots := 0, locals := 0 } : Room).cells ({ frames := 0, cells := 0, slots := 0, locals := 0 } : Room).slots) := by
  refine MetFree.of_bodySF (plainFor_of_name pn_6) hisR ?_
  intro p e s m args below meth c s₁ Bd hml0 hP hK
  obtain ⟨rfl, hZ, hh⟩ := hP
  have hx := Bd.exec
  have hby := Bd.bytes
  have hml : c.maxLocals = 1 := hml0
  have hown : s.vm.findClass "com/example/coverbill/coverbill/charge/ChargeRunResult" = some m.cls := findClass_of_methodNamed Bd.named
  have hnm := (name_of_methodNamed Bd.named Bd.method).1
  have X0 : Stand p l e ({ frames := 0, cells := 0, slots := 0, locals := 0 } : Room) s m #[(.ref a1)] below meth c s₁ [] 0 0 := Stand.of_body Bd
  have e0 : s₁.heap = h0 := by rw [← hh, Bd.state]; rfl
  have N0 := Fr.nil n0
  suffices G0 : ∀ K : State → Prop, (∀ (n : State) (v : Option Value) (L : List Loc), n.status = .running → Ended n below (.returned v) → Q6 Z a1 u h0 n0 v n.heap L → FrameEnd s (.returned v) n L ({ frames := 0, cells := 0, slots := 0, locals := 0 } : Room).cells ({ frames := 0, cells := 0, slots := 0, locals := 0 } : Room).slots → K n) → own_Go p e below K (s₁.setTop (mkF m 0 #[.val (.ref a1)] [])) by
    obtain ⟨t, st, o, a, b, v, L, e1, q, fe⟩ := G0 (fun n => ∃ o, n.status = .running ∧ Ended n below o ∧ ∃ v L, o = .returned v ∧ Q6 Z a1 u h0 n0 v n.heap L ∧ FrameEnd s o n L ({ frames := 0, cells := 0, slots := 0, locals := 0 } : Room).cells ({ frames := 0, cells := 0, slots := 0, locals := 0 } : Room).slots) (fun n v L a b q f => ⟨_, a, b, v, L, rfl, q, f⟩)
    exact ⟨t, o, castTop (ef_6 m a1) st, a, b, v, L, e1, q, fe⟩
  intro K fin
  show own_Go p e below K (s₁.setTop (mkF m 0 #[.val (.ref a1)] []))
  refine own_st (fun t k => XS.aloadN X0.here hx rfl (hb hby d6_0) rfl rfl k) ?_
  show own_Go p e below K (s₁.setTop (mkF m 1 #[.val (.ref a1)] [(.ref a1)]))
  obtain ⟨T1, X1, e1, st1⟩ := getF X0 hx hZ hown (host := "") (Or.inl (hw _ (List.mem_of_getElem? (i := 11) rfl))) Via.refl e0 P0 (g := (mkF m 1 #[.val (.ref a1)] [(.ref a1)])) rfl rfl (hb hby d6_1)
  refine own_st st1 ?_
  show own_Go p e below K (T1.setTop (mkF m 4 #[.val (.ref a1)] [(.int u)]))
  obtain ⟨fs, hr, hrun, hended, hW, hsame⟩ := X1.leave (v := some (.int u)) (fun h => by rw [Bd.returns] at h; cases h)
  refine ⟨_, retI X1 hx Bd.returns (hb hby d6_4) hr, fin _ _ _ hrun hended ?_ ⟨⟨_, rfl⟩, hW, hsame.mono (by decide) (by decide)⟩⟩
  show Q6 Z a1 u h0 n0 _ T1.heap _
  rw [e1]
  exact ⟨_, rfl, rfl, N0, rfl⟩
theorem d7_0 : decode prog_37_method_5_code 0 = .ok (.aload_n 0, 1) := by decide +kernel
theorem d7_1 : decode prog_37_method_5_code 1 = .ok (.getfield 16, 3) := by decide +kernel
theorem d7_4 : decode prog_37_method_5_code 4 = .ok (.ireturn, 1) := by decide +kernel
theorem pn_7 : plainName "com/example/coverbill/coverbill/charge/ChargeRunResult" = true := by first | (simp [plainName, overriddenIn]; done) | decide +kernel
theorem ef_7 (m : MethodId) (x0 : Addr) : entryFrame m #[(.ref x0)] 1 = mkF m 0 #[.val (.ref x0)] [] := by first | (simp [entryFrame, mkF, argsToLocals, Value.category]; done) | rfl
def Q7 (Z : State) (a1 : Addr) (u : Int32) (h0 : Heap) (n0 : Nat) (v : Option Value) (h : Heap) (L : List Loc) : Prop := ∃ (r : Int32), v = some (.int r) ∧ (r = u) ∧ Fr n0 L ∧ h = h0
set_option maxRecDepth 65536 in
set_option maxHeartbeats 40000000 in
theorem rm7 (l : Launch) (Z : State) (a0 : Array Value) (hw : ∀ d ∈ tables_1, d.before a0 Z = true) (ws : List Jvm.Cond) (a1 : Addr) (u : Int32) (h0 : Heap) (n0 : Nat) (Z0 : n0 ≤ h0.size) (P0 : Fld Z h0 a1 "com/example/coverbill/coverbill/charge/ChargeRunResult" "chargesCreated" "I" (.int u)) :
    MetFree l (⟨"com/example/coverbill/coverbill/charge/ChargeRunResult", "chargesCreated", "()I"⟩ : MethodName) (head1 (Jvm.Cond.code (⟨"com/example/coverbill/coverbill/charge/ChargeRunResult", "chargesCreated", "()I"⟩ : MethodName) prog_37_method_5_code 1 (some .int) :: ws) ({ frames := 0, cells := 0, slots := 0, locals := 0 } : Room)) (fun a U => a = #[(.ref a1)] ∧ Z.Warmed39 U.vm ∧ U.heap = h0) (fun _ _ _ _ _ => True) (fun _ U o U' => ∃ v L, o = .returned v ∧ Q7 Z a1 u h0 n0 v U'.heap L ∧ FrameEnd U o U' L ({ frames := 0, cells := 0, slots := 0, locals := 0 } : Room).cells ({ frames := 0, cells := 0, slots := 0, locals := 0 } : Room).slots) := by
  refine MetFree.of_bodySF (plainFor_of_name pn_7) hisR ?_
  intro p e s m args below meth c s₁ Bd hml0 hP hK
  obtain ⟨rfl, hZ, hh⟩ := hP
  have hx := Bd.exec
  have hby := Bd.bytes
  have hml : c.maxLocals = 1 := hml0
  have hown : s.vm.findClass "com/example/coverbill/coverbill/charge/ChargeRunResult" = some m.cls := findClass_of_methodNamed Bd.named
  have hnm := (name_of_methodNamed Bd.named Bd.method).1
  have X0 : Stand p l e ({ frames := 0, cells := 0, slots := 0, locals := 0 } : Room) s m #[(.ref a1)] below meth c s₁ [] 0 0 := Stand.of_body Bd
  have e0 : s₁.heap = h0 := by rw [← hh, Bd.state]; rfl
  have N0 := Fr.nil n0
  suffices G0 : ∀ K : State → Prop, (∀ (n : State) (v : Option Value) (L : List Loc), n.status = .running → Ended n below (.returned v) → Q7 Z a1 u h0 n0 v n.heap L → FrameEnd s (.returned v) n L ({ frames := 0, cells := 0, slots := 0, locals := 0 } : Room).cells ({ frames := 0, cells := 0, slots := 0, locals := 0 } : Room).slots → K n) → own_Go p e below K (s₁.setTop (mkF m 0 #[.val (.ref a1)] [])) by
    obtain ⟨t, st, o, a, b, v, L, e1, q, fe⟩ := G0 (fun n => ∃ o, n.status = .running ∧ Ended n below o ∧ ∃ v L, o = .returned v ∧ Q7 Z a1 u h0 n0 v n.heap L ∧ FrameEnd s o n L ({ frames := 0, cells := 0, slots := 0, locals := 0 } : Room).cells ({ frames := 0, cells := 0, slots := 0, locals := 0 } : Room).slots) (fun n v L a b q f => ⟨_, a, b, v, L, rfl, q, f⟩)
    exact ⟨t, o, castTop (ef_7 m a1) st, a, b, v, L, e1, q, fe⟩
  intro K fin
  show own_Go p e below K (s₁.setTop (mkF m 0 #[.val (.ref a1)] []))
  refine own_st (fun t k => XS.aloadN X0.here hx rfl (hb hby d7_0) rfl rfl k) ?_
  show own_Go p e below K (s₁.setTop (mkF m 1 #[.val (.ref a1)] [(.ref a1)]))
  obtain ⟨T1, X1, e1, st1⟩ := getF X0 hx hZ hown (host := "") (Or.inl (hw _ (List.mem_of_getElem? (i := 13) rfl))) Via.refl e0 P0 (g := (mkF m 1 #[.val (.ref a1)] [(.ref a1)])) rfl rfl (hb hby d7_1)
  refine own_st st1 ?_
  show own_Go p e below K (T1.setTop (mkF m 4 #[.val (.ref a1)] [(.int u)]))
  obtain ⟨fs, hr, hrun, hended, hW, hsame⟩ := X1.leave (v := some (.int u)) (fun h => by rw [Bd.returns] at h; cases h)
  refine ⟨_, retI X1 hx Bd.returns (hb hby d7_4) hr, fin _ _ _ hrun hended ?_ ⟨⟨_, rfl⟩, hW, hsame.mono (by decide) (by decide)⟩⟩
  show Q7 Z a1 u h0 n0 _ T1.heap _
  rw [e1]
  exact ⟨_, rfl, rfl, N0, rfl⟩
theorem d8_0 : decode prog_37_method_6_code 0 = .ok (.aload_n 0, 1) := by decide +kernel
theorem d8_1 : decode prog_37_method_6_code 1 = .ok (.getfield 19, 3) := by decide +kernel
theorem d8_4 : decode prog_37_method_6_code 4 = .ok (.ireturn, 1) := by decide +kernel
theorem pn_8 : plainName "com/example/coverbill/coverbill/charge/ChargeRunResult" = true := by first | (simp [plainName, overriddenIn]; done) | decide +kernel
theorem ef_8 (m : MethodId) (x0 : Addr) : entryFrame m #[(.ref x0)] 1 = mkF m 0 #[.val (.ref x0)] [] := by first | (simp [entryFrame, mkF, argsToLocals, Value.category]; done) | rfl
def Q8 (Z : State) (a1 : Addr) (u : Int32) (h0 : Heap) (n0 : Nat) (v : Option Value) (h : Heap) (L : List Loc) : Prop := ∃ (r : Int32), v = some (.int r) ∧ (r = u) ∧ Fr n0 L ∧ h = h0
set_option maxRecDepth 65536 in
set_option maxHeartbeats 40000000 in
theorem rm8 (l : Launch) (Z : State) (a0 : Array Value) (hw : ∀ d ∈ tables_1, d.before a0 Z = true) (ws : List Jvm.Cond) (a1 : Addr) (u : Int32) (h0 : Heap) (n0 : Nat) (Z0 : n0 ≤ h0.size) (P0 : Fld Z h0 a1 "com/example/coverbill/coverbill/charge/ChargeRunResult" "endDatesChanged" "I" (.int u)) :
    MetFree l (⟨"com/example/coverbill/coverbill/charge/ChargeRunResult", "endDatesChanged", "()I"⟩ : MethodName) (head1 (Jvm.Cond.code (⟨"com/example/coverbill/coverbill/charge/ChargeRunResult", "endDatesChanged", "()I"⟩ : MethodName) prog_37_method_6_code 1 (some .int) :: ws) ({ frames := 0, cells := 0, slots := 0, locals := 0 } : Room)) (fun a U => a = #[(.ref a1)] ∧ Z.Warmed39 U.vm ∧ U.heap = h0) (fun _ _ _ _ _ => True) (fun _ U o U' => ∃ v L, o = .returned v ∧ Q8 Z a1 u h0 n0 v U'.heap L ∧ FrameEnd U o U' L ({ frames := 0, cells := 0, slots := 0, locals := 0 } : Room).cells ({ frames := 0, cells := 0, slots := 0, locals := 0 } : Room).slots) := by
  refine MetFree.of_bodySF (plainFor_of_name pn_8) hisR ?_
  intro p e s m args below meth c s₁ Bd hml0 hP hK
  obtain ⟨rfl, hZ, hh⟩ := hP
  have hx := Bd.exec
  have hby := Bd.bytes
  have hml : c.maxLocals = 1 := hml0
  have hown : s.vm.findClass "com/example/coverbill/coverbill/charge/ChargeRunResult" = some m.cls := findClass_of_methodNamed Bd.named
  have hnm := (name_of_methodNamed Bd.named Bd.method).1
  have X0 : Stand p l e ({ frames := 0, cells := 0, slots := 0, locals := 0 } : Room) s m #[(.ref a1)] below meth c s₁ [] 0 0 := Stand.of_body Bd
  have e0 : s₁.heap = h0 := by rw [← hh, Bd.state]; rfl
  have N0 := Fr.nil n0
  suffices G0 : ∀ K : State → Prop, (∀ (n : State) (v : Option Value) (L : List Loc), n.status = .running → Ended n below (.returned v) → Q8 Z a1 u h0 n0 v n.heap L → FrameEnd s (.returned v) n L ({ frames := 0, cells := 0, slots := 0, locals := 0 } : Room).cells ({ frames := 0, cells := 0, slots := 0, locals := 0 } : Room).slots → K n) → own_Go p e below K (s₁.setTop (mkF m 0 #[.val (.ref a1)] [])) by
    obtain ⟨t, st, o, a, b, v, L, e1, q, fe⟩ := G0 (fun n => ∃ o, n.status = .running ∧ Ended n below o ∧ ∃ v L, o = .returned v ∧ Q8 Z a1 u h0 n0 v n.heap L ∧ FrameEnd s o n L ({ frames := 0, cells := 0, slots := 0, locals := 0 } : Room).cells ({ frames := 0, cells := 0, slots := 0, locals := 0 } : Room).slots) (fun n v L a b q f => ⟨_, a, b, v, L, rfl, q, f⟩)
    exact ⟨t, o, castTop (ef_8 m a1) st, a, b, v, L, e1, q, fe⟩
  intro K fin
  show own_Go p e below K (s₁.setTop (mkF m 0 #[.val (.ref a1)] []))
  refine own_st (fun t k => XS.aloadN X0.here hx rfl (hb hby d8_0) rfl rfl k) ?_
  show own_Go p e below K (s₁.setTop (mkF m 1 #[.val (.ref a1)] [(.ref a1)]))
  obtain ⟨T1, X1, e1, st1⟩ := getF X0 hx hZ hown (host := "") (Or.inl (hw _ (List.mem_of_getElem? (i := 15) rfl))) Via.refl e0 P0 (g := (mkF m 1 #[.val (.ref a1)] [(.ref a1)])) rfl rfl (hb hby d8_1)
  refine own_st st1 ?_
  show own_Go p e below K (T1.setTop (mkF m 4 #[.val (.ref a1)] [(.int u)]))
  obtain ⟨fs, hr, hrun, hended, hW, hsame⟩ := X1.leave (v := some (.int u)) (fun h => by rw [Bd.returns] at h; cases h)
  refine ⟨_, retI X1 hx Bd.returns (hb hby d8_4) hr, fin _ _ _ hrun hended ?_ ⟨⟨_, rfl⟩, hW, hsame.mono (by decide) (by decide)⟩⟩
  show Q8 Z a1 u h0 n0 _ T1.heap _
  rw [e1]
  exact ⟨_, rfl, rfl, N0, rfl⟩
theorem d9_0 : decode prog_37_method_7_code 0 = .ok (.aload_n 0, 1) := by decide +kernel
theorem d9_1 : decode prog_37_method_7_code 1 = .ok (.getfield 22, 3) := by decide +kernel
theorem d9_4 : decode prog_37_method_7_code 4 = .ok (.ireturn, 1) := by decide +kernel
theorem pn_9 : plainName "com/example/coverbill/coverbill/charge/ChargeRunResult" = true := by first | (simp [plainName, overriddenIn]; done) | decide +kernel
theorem ef_9 (m : MethodId) (x0 : Addr) : entryFrame m #[(.ref x0)] 1 = mkF m 0 #[.val (.ref x0)] [] := by first | (simp [entryFrame, mkF, argsToLocals, Value.category]; done) | rfl
def Q9 (Z : State) (a1 : Addr) (u : Int32) (h0 : Heap) (n0 : Nat) (v : Option Value) (h : Heap) (L : List Loc) : Prop := ∃ (r : Int32), v = some (.int r) ∧ (r = u) ∧ Fr n0 L ∧ h = h0
set_option maxRecDepth 65536 in
set_option maxHeartbeats 40000000 in
theorem rm9 (l : Launch) (Z : State) (a0 : Array Value) (hw : ∀ d ∈ tables_1, d.before a0 Z = true) (ws : List Jvm.Cond) (a1 : Addr) (u : Int32) (h0 : Heap) (n0 : Nat) (Z0 : n0 ≤ h0.size) (P0 : Fld Z h0 a1 "com/example/coverbill/coverbill/charge/ChargeRunResult" "chargesCanceled" "I" (.int u)) :
    MetFree l (⟨"com/example/coverbill/coverbill/charge/ChargeRunResult", "chargesCanceled", "()I"⟩ : MethodName) (head1 (Jvm.Cond.code (⟨"com/example/coverbill/coverbill/charge/ChargeRunResult", "chargesCanceled", "()I"⟩ : MethodName) prog_37_method_7_code 1 (some .int) :: ws) ({ frames := 0, cells := 0, slots := 0, locals := 0 } : Room)) (fun a U => a = #[(.ref a1)] ∧ Z.Warmed39 U.vm ∧ U.heap = h0) (fun _ _ _ _ _ => True) (fun _ U o U' => ∃ v L, o = .returned v ∧ Q9 Z a1 u h0 n0 v U'.heap L ∧ FrameEnd U o U' L ({ frames := 0, cells := 0, slots := 0, locals := 0 } : Room).cells ({ frames := 0, cells := 0, slots := 0, locals := 0 } : Room).slots) := by
  refine MetFree.of_bodySF (plainFor_of_name pn_9) hisR ?_
  intro p e s m args below meth c s₁ Bd hml0 hP hK
  obtain ⟨rfl, hZ, hh⟩ := hP
  have hx := Bd.exec
  have hby := Bd.bytes
  have hml : c.maxLocals = 1 := hml0
  have hown : s.vm.findClass "com/example/coverbill/coverbill/charge/ChargeRunResult" = some m.cls := findClass_of_methodNamed Bd.named
  have hnm := (name_of_methodNamed Bd.named Bd.method).1
  have X0 : Stand p l e ({ frames := 0, cells := 0, slots := 0, locals := 0 } : Room) s m #[(.ref a1)] below meth c s₁ [] 0 0 := Stand.of_body Bd
  have e0 : s₁.heap = h0 := by rw [← hh, Bd.state]; rfl
  have N0 := Fr.nil n0
  suffices G0 : ∀ K : State → Prop, (∀ (n : State) (v : Option Value) (L : List Loc), n.status = .running → Ended n below (.returned v) → Q9 Z a1 u h0 n0 v n.heap L → FrameEnd s (.returned v) n L ({ frames := 0, cells := 0, slots := 0, locals := 0 } : Room).cells ({ frames := 0, cells := 0, slots := 0, locals := 0 } : Room).slots → K n) → own_Go p e below K (s₁.setTop (mkF m 0 #[.val (.ref a1)] [])) by
    obtain ⟨t, st, o, a, b, v, L, e1, q, fe⟩ := G0 (fun n => ∃ o, n.status = .running ∧ Ended n below o ∧ ∃ v L, o = .returned v ∧ Q9 Z a1 u h0 n0 v n.heap L ∧ FrameEnd s o n L ({ frames := 0, cells := 0, slots := 0, locals := 0 } : Room).cells ({ frames := 0, cells := 0, slots := 0, locals := 0 } : Room).slots) (fun n v L a b q f => ⟨_, a, b, v, L, rfl, q, f⟩)
    exact ⟨t, o, castTop (ef_9 m a1) st, a, b, v, L, e1, q, fe⟩
  intro K fin
  show own_Go p e below K (s₁.setTop (mkF m 0 #[.val (.ref a1)] []))
  refine own_st (fun t k => XS.aloadN X0.here hx rfl (hb hby d9_0) rfl rfl k) ?_
  show own_Go p e below K (s₁.setTop (mkF m 1 #[.val (.ref a1)] [(.ref a1)]))
  obtain ⟨T1, X1, e1, st1⟩ := getF X0 hx hZ hown (host := "") (Or.inl (hw _ (List.mem_of_getElem? (i := 17) rfl))) Via.refl e0 P0 (g := (mkF m 1 #[.val (.ref a1)] [(.ref a1)])) rfl rfl (hb hby d9_1)
  refine own_st st1 ?_
  show own_Go p e below K (T1.setTop (mkF m 4 #[.val (.ref a1)] [(.int u)]))
  obtain ⟨fs, hr, hrun, hended, hW, hsame⟩ := X1.leave (v := some (.int u)) (fun h => by rw [Bd.returns] at h; cases h)
  refine ⟨_, retI X1 hx Bd.returns (hb hby d9_4) hr, fin _ _ _ hrun hended ?_ ⟨⟨_, rfl⟩, hW, hsame.mono (by decide) (by decide)⟩⟩
  show Q9 Z a1 u h0 n0 _ T1.heap _
  rw [e1]
  exact ⟨_, rfl, rfl, N0, rfl⟩
theorem d5_0 : decode method_3_code 0 = .ok (.iload_n 0, 1) := by decide +kernel
theorem d5_1 : decode method_3_code 1 = .ok (.i2l, 1) := by decide +kernel
theorem d5_2 : decode method_3_code 2 = .ok (.iload_n 1, 1) := by decide +kernel
theorem d5_3 : decode method_3_code 3 = .ok (.i2l, 1) := by decide +kernel
theorem d5_4 : decode method_3_code 4 = .ok (.ladd, 1) := by decide +kernel
theorem d5_5 : decode method_3_code 5 = .ok (.l2i, 1) := by decide +kernel
theorem d5_6 : decode method_3_code 6 = .ok (.ireturn, 1) := by decide +kernel
theorem pn_5 : plainName "com/example/coverbill/coverbill/charge/ChargeRunResultPlusPinLaw" = true := by first | (simp [plainName, overriddenIn]; done) | decide +kernel
theorem ef_5 (m : MethodId) (x0 : Int32) (x1 : Int32) : entryFrame m #[(.int x0), (.int x1)] 2 = mkF m 0 #[.val (.int x0), .val (.int x1)] [] := by first | (simp [entryFrame, mkF, argsToLocals, Value.category]; done) | rfl
def Q5 (Z : State) (p1 : Int32) (p2 : Int32) (h0 : Heap) (n0 : Nat) (v : Option Value) (h : Heap) (L : List Loc) : Prop := ∃ (r : Int32), v = some (.int r) ∧ (r = p1 + p2) ∧ Fr n0 L ∧ h = h0
set_option maxRecDepth 65536 in
set_option maxHeartbeats 40000000 in
theorem rm5 (l : Launch) (Z : State) (a0 : Array Value) (hw : ∀ d ∈ tables_1, d.before a0 Z = true) (ws : List Jvm.Cond) (p1 : Int32) (p2 : Int32) (h0 : Heap) (n0 : Nat) (Z0 : n0 ≤ h0.size)  :
    MetFree l (⟨"com/example/coverbill/coverbill/charge/ChargeRunResultPlusPinLaw", "sum", "(II)I"⟩ : MethodName) (head1 (Jvm.Cond.code (⟨"com/example/coverbill/coverbill/charge/ChargeRunResultPlusPinLaw", "sum", "(II)I"⟩ : MethodName) method_3_code 2 (some .int) :: ws) ({ frames := 0, cells := 0, slots := 0, locals := 0 } : Room)) (fun a U => a = #[(.int p1), (.int p2)] ∧ Z.Warmed39 U.vm ∧ U.heap = h0) (fun _ _ _ _ _ => True) (fun _ U o U' => ∃ v L, o = .returned v ∧ Q5 Z p1 p2 h0 n0 v U'.heap L ∧ FrameEnd U o U' L ({ frames := 0, cells := 0, slots := 0, locals := 0 } : Room).cells ({ frames := 0, cells := 0, slots := 0, locals := 0 } : Room).slots) := by
  refine MetFree.of_bodySF (plainFor_of_name pn_5) hisR ?_
  intro p e s m args below meth c s₁ Bd hml0 hP hK
  obtain ⟨rfl, hZ, hh⟩ := hP
  have hx := Bd.exec
  have hby := Bd.bytes
  have hml : c.maxLocals = 2 := hml0
  have hown : s.vm.findClass "com/example/coverbill/coverbill/charge/ChargeRunResultPlusPinLaw" = some m.cls := findClass_of_methodNamed Bd.named
  have hnm := (name_of_methodNamed Bd.named Bd.method).1
  have X0 : Stand p l e ({ frames := 0, cells := 0, slots := 0, locals := 0 } : Room) s m #[(.int p1), (.int p2)] below meth c s₁ [] 0 0 := Stand.of_body Bd
  have e0 : s₁.heap = h0 := by rw [← hh, Bd.state]; rfl
  have N0 := Fr.nil n0
  suffices G0 : ∀ K : State → Prop, (∀ (n : State) (v : Option Value) (L : List Loc), n.status = .running → Ended n below (.returned v) → Q5 Z p1 p2 h0 n0 v n.heap L → FrameEnd s (.returned v) n L ({ frames := 0, cells := 0, slots := 0, locals := 0 } : Room).cells ({ frames := 0, cells := 0, slots := 0, locals := 0 } : Room).slots → K n) → own_Go p e below K (s₁.setTop (mkF m 0 #[.val (.int p1), .val (.int p2)] [])) by
    obtain ⟨t, st, o, a, b, v, L, e1, q, fe⟩ := G0 (fun n => ∃ o, n.status = .running ∧ Ended n below o ∧ ∃ v L, o = .returned v ∧ Q5 Z p1 p2 h0 n0 v n.heap L ∧ FrameEnd s o n L ({ frames := 0, cells := 0, slots := 0, locals := 0 } : Room).cells ({ frames := 0, cells := 0, slots := 0, locals := 0 } : Room).slots) (fun n v L a b q f => ⟨_, a, b, v, L, rfl, q, f⟩)
    exact ⟨t, o, castTop (ef_5 m p1 p2) st, a, b, v, L, e1, q, fe⟩
  intro K fin
  show own_Go p e below K (s₁.setTop (mkF m 0 #[.val (.int p1), .val (.int p2)] []))
  refine own_st (fun t k => XS.iloadN X0.here hx rfl (hb hby d5_0) rfl k) ?_
  show own_Go p e below K (s₁.setTop (mkF m 1 #[.val (.int p1), .val (.int p2)] [(.int p1)]))
  refine own_st (fun t k => XS.i2l X0.here hx rfl (hb hby d5_1) rfl k) ?_
  show own_Go p e below K (s₁.setTop (mkF m 2 #[.val (.int p1), .val (.int p2)] [(.long (p1.toInt64))]))
  refine own_st (fun t k => XS.iloadN X0.here hx rfl (hb hby d5_2) rfl k) ?_
  show own_Go p e below K (s₁.setTop (mkF m 3 #[.val (.int p1), .val (.int p2)] [(.int p2), (.long (p1.toInt64))]))
  refine own_st (fun t k => XS.i2l X0.here hx rfl (hb hby d5_3) rfl k) ?_
  show own_Go p e below K (s₁.setTop (mkF m 4 #[.val (.int p1), .val (.int p2)] [(.long (p2.toInt64)), (.long (p1.toInt64))]))
  refine own_st (fun t k => XS.ladd X0.here hx rfl (hb hby d5_4) rfl k) ?_
  show own_Go p e below K (s₁.setTop (mkF m 5 #[.val (.int p1), .val (.int p2)] [(.long ((p1.toInt64) + (p2.toInt64)))]))
  refine own_st (fun t k => XS.l2i X0.here hx rfl (hb hby d5_5) rfl k) ?_
  show own_Go p e below K (s₁.setTop (mkF m 6 #[.val (.int p1), .val (.int p2)] [(.int (((p1.toInt64) + (p2.toInt64)).toInt32))]))
  obtain ⟨fs, hr, hrun, hended, hW, hsame⟩ := X0.leave (v := some (.int (((p1.toInt64) + (p2.toInt64)).toInt32))) (fun h => by rw [Bd.returns] at h; cases h)
  refine ⟨_, retI X0 hx Bd.returns (hb hby d5_6) hr, fin _ _ _ hrun hended ?_ ⟨⟨_, rfl⟩, hW, hsame.mono (by decide) (by decide)⟩⟩
  show Q5 Z p1 p2 h0 n0 _ s₁.heap _
  rw [e0]
  exact ⟨_, rfl, (own_sum _ _), N0, rfl⟩
theorem pn_0 : plainName "com/example/coverbill/coverbill/charge/ChargeRunResultPlusPinLaw" = true := by first | (simp [plainName, overriddenIn]; done) | decide +kernel
theorem pd_0_0 : parseMethodDescriptor "(IIIII)V" = some ⟨[.int, .int, .int, .int, .int], none⟩ := by decide +kernel
theorem pd_0_2 : parseMethodDescriptor "(Lcom/example/coverbill/coverbill/charge/ChargeRunResult;)Lcom/example/coverbill/coverbill/charge/ChargeRunResult;" = some ⟨[(.object "com/example/coverbill/coverbill/charge/ChargeRunResult")], some (.object "com/example/coverbill/coverbill/charge/ChargeRunResult")⟩ := by decide +kernel
theorem pd_0_3 : parseMethodDescriptor "()I" = some ⟨[], some .int⟩ := by decide +kernel
theorem pd_0_4 : parseMethodDescriptor "(II)I" = some ⟨[.int, .int], some .int⟩ := by decide +kernel
theorem ef_0 (m : MethodId) (x0 : Int64) (x1 : Int64) (x2 : Int64) (x3 : Int64) (x4 : Int64) : entryFrame m #[(.long x0), (.long x1), (.long x2), (.long x3), (.long x4)] maxLocals = mkF m 0 #[.val (.long x0), .second, .val (.long x1), .second, .val (.long x2), .second, .val (.long x3), .second, .val (.long x4), .second, .unset, .unset, .unset, .unset, .unset, .unset, .unset, .unset, .unset, .unset, .unset, .unset, .unset] [] := by first | (simp [entryFrame, mkF, argsToLocals, Value.category, maxLocals]; done) | rfl
def Q0 (Z : State) (q1 : Int64) (q2 : Int64) (q3 : Int64) (q4 : Int64) (q5 : Int64) (h0 : Heap) (n0 : Nat) (v : Option Value) (h : Heap) (L : List Loc) : Prop := v = some (.int 1) ∧ Fr n0 L
set_option maxRecDepth 65536 in
set_option maxHeartbeats 40000000 in
theorem rm0 (l : Launch) (Z : State) (a0 : Array Value) (hw : ∀ d ∈ tables_1, d.before a0 Z = true) (ws : List Jvm.Cond) (q1 : Int64) (q2 : Int64) (q3 : Int64) (q4 : Int64) (q5 : Int64) (h0 : Heap) (n0 : Nat) (Z0 : n0 ≤ h0.size)  :
    MetFree l x (head1 (Jvm.Cond.code x code maxLocals ret :: ws) room_1) (fun a U => a = #[(.long q1), (.long q2), (.long q3), (.long q4), (.long q5)] ∧ Z.Warmed39 U.vm ∧ U.heap = h0) (fun _ _ _ _ _ => True) (fun _ U o U' => ∃ v L, o = .returned v ∧ Q0 Z q1 q2 q3 q4 q5 h0 n0 v U'.heap L ∧ FrameEnd U o U' L 3 15) := by
  refine MetFree.of_bodySF (plainFor_of_name pn_0) hisR ?_
  intro p e s m args below meth c s₁ Bd hml0 hP hK
  obtain ⟨rfl, hZ, hh⟩ := hP
  have hx := Bd.exec
  have hby := Bd.bytes
  have hml : c.maxLocals = 23 := hml0
  have hown : s.vm.findClass "com/example/coverbill/coverbill/charge/ChargeRunResultPlusPinLaw" = some m.cls := findClass_of_methodNamed Bd.named
  have hnm := (name_of_methodNamed Bd.named Bd.method).1
  have X0 : Stand p l e room_1 s m #[(.long q1), (.long q2), (.long q3), (.long q4), (.long q5)] below meth c s₁ [] 0 0 := Stand.of_body Bd
  have e0 : s₁.heap = h0 := by rw [← hh, Bd.state]; rfl
  have N0 := Fr.nil n0
  suffices G0 : ∀ K : State → Prop, (∀ (n : State) (v : Option Value) (L : List Loc), n.status = .running → Ended n below (.returned v) → Q0 Z q1 q2 q3 q4 q5 h0 n0 v n.heap L → FrameEnd s (.returned v) n L 3 15 → K n) → own_Go p e below K (s₁.setTop (mkF m 0 #[.val (.long q1), .second, .val (.long q2), .second, .val (.long q3), .second, .val (.long q4), .second, .val (.long q5), .second, .unset, .unset, .unset, .unset, .unset, .unset, .unset, .unset, .unset, .unset, .unset, .unset, .unset] [])) by
    obtain ⟨t, st, o, a, b, v, L, e1, q, fe⟩ := G0 (fun n => ∃ o, n.status = .running ∧ Ended n below o ∧ ∃ v L, o = .returned v ∧ Q0 Z q1 q2 q3 q4 q5 h0 n0 v n.heap L ∧ FrameEnd s o n L 3 15) (fun n v L a b q f => ⟨_, a, b, v, L, rfl, q, f⟩)
    exact ⟨t, o, castTop (ef_0 m q1 q2 q3 q4 q5) st, a, b, v, L, e1, q, fe⟩
  intro K fin
  show own_Go p e below K (s₁.setTop (mkF m 0 #[.val (.long q1), .second, .val (.long q2), .second, .val (.long q3), .second, .val (.long q4), .second, .val (.long q5), .second, .unset, .unset, .unset, .unset, .unset, .unset, .unset, .unset, .unset, .unset, .unset, .unset, .unset] []))
  refine own_st (fun t k => XS.lloadN X0.here hx rfl (hb hby at_0) rfl k) ?_
  show own_Go p e below K (s₁.setTop (mkF m 1 #[.val (.long q1), .second, .val (.long q2), .second, .val (.long q3), .second, .val (.long q4), .second, .val (.long q5), .second, .unset, .unset, .unset, .unset, .unset, .unset, .unset, .unset, .unset, .unset, .unset, .unset, .unset] [(.long q1)]))
  refine own_st (fun t k => XS.bipush X0.here hx rfl (hb hby at_1) k) ?_
  show own_Go p e below K (s₁.setTop (mkF m 3 #[.val (.long q1), .second, .val (.long q2), .second, .val (.long q3), .second, .val (.long q4), .second, .val (.long q5), .second, .unset, .unset, .unset, .unset, .unset, .unset, .unset, .unset, .unset, .unset, .unset, .unset, .unset] [(.int (32 : Int32)), (.long q1)]))
  refine own_st (fun t k => XS.lushr X0.here hx rfl (hb hby at_3) rfl k) ?_
  show own_Go p e below K (s₁.setTop (mkF m 4 #[.val (.long q1), .second, .val (.long q2), .second, .val (.long q3), .second, .val (.long q4), .second, .val (.long q5), .second, .unset, .unset, .unset, .unset, .unset, .unset, .unset, .unset, .unset, .unset, .unset, .unset, .unset] [(.long ((q1.toUInt64 >>> ((32 : Int32) &&& 0x3f).toInt64.toUInt64).toInt64))]))
  refine own_st (fun t k => XS.l2i X0.here hx rfl (hb hby at_4) rfl k) ?_
  show own_Go p e below K (s₁.setTop (mkF m 5 #[.val (.long q1), .second, .val (.long q2), .second, .val (.long q3), .second, .val (.long q4), .second, .val (.long q5), .second, .unset, .unset, .unset, .unset, .unset, .unset, .unset, .unset, .unset, .unset, .unset, .unset, .unset] [(.int (((q1.toUInt64 >>> ((32 : Int32) &&& 0x3f).toInt64.toUInt64).toInt64).toInt32))]))
  generalize hc1 : (((q1.toUInt64 >>> ((32 : Int32) &&& 0x3f).toInt64.toUInt64).toInt64).toInt32) = c1
  show own_Go p e below K (s₁.setTop (mkF m 5 #[.val (.long q1), .second, .val (.long q2), .second, .val (.long q3), .second, .val (.long q4), .second, .val (.long q5), .second, .unset, .unset, .unset, .unset, .unset, .unset, .unset, .unset, .unset, .unset, .unset, .unset, .unset] [(.int c1)]))
  refine own_st (fun t k => XS.istore X0.here hx rfl (hb hby at_5) rfl (l' := #[.val (.long q1), .second, .val (.long q2), .second, .val (.long q3), .second, .val (.long q4), .second, .val (.long q5), .second, .val (.int c1), .unset, .unset, .unset, .unset, .unset, .unset, .unset, .unset, .unset, .unset, .unset, .unset]) rfl k) ?_
  show own_Go p e below K (s₁.setTop (mkF m 7 #[.val (.long q1), .second, .val (.long q2), .second, .val (.long q3), .second, .val (.long q4), .second, .val (.long q5), .second, .val (.int c1), .unset, .unset, .unset, .unset, .unset, .unset, .unset, .unset, .unset, .unset, .unset, .unset] []))
  refine own_st (fun t k => XS.lloadN X0.here hx rfl (hb hby at_7) rfl k) ?_
  show own_Go p e below K (s₁.setTop (mkF m 8 #[.val (.long q1), .second, .val (.long q2), .second, .val (.long q3), .second, .val (.long q4), .second, .val (.long q5), .second, .val (.int c1), .unset, .unset, .unset, .unset, .unset, .unset, .unset, .unset, .unset, .unset, .unset, .unset] [(.long q1)]))
  refine own_st (fun t k => XS.l2i X0.here hx rfl (hb hby at_8) rfl k) ?_
  show own_Go p e below K (s₁.setTop (mkF m 9 #[.val (.long q1), .second, .val (.long q2), .second, .val (.long q3), .second, .val (.long q4), .second, .val (.long q5), .second, .val (.int c1), .unset, .unset, .unset, .unset, .unset, .unset, .unset, .unset, .unset, .unset, .unset, .unset] [(.int (q1.toInt32))]))
  generalize hd1 : (q1.toInt32) = d1
  show own_Go p e below K (s₁.setTop (mkF m 9 #[.val (.long q1), .second, .val (.long q2), .second, .val (.long q3), .second, .val (.long q4), .second, .val (.long q5), .second, .val (.int c1), .unset, .unset, .unset, .unset, .unset, .unset, .unset, .unset, .unset, .unset, .unset, .unset] [(.int d1)]))
  refine own_st (fun t k => XS.istore X0.here hx rfl (hb hby at_9) rfl (l' := #[.val (.long q1), .second, .val (.long q2), .second, .val (.long q3), .second, .val (.long q4), .second, .val (.long q5), .second, .val (.int c1), .val (.int d1), .unset, .unset, .unset, .unset, .unset, .unset, .unset, .unset, .unset, .unset, .unset]) rfl k) ?_
  show own_Go p e below K (s₁.setTop (mkF m 11 #[.val (.long q1), .second, .val (.long q2), .second, .val (.long q3), .second, .val (.long q4), .second, .val (.long q5), .second, .val (.int c1), .val (.int d1), .unset, .unset, .unset, .unset, .unset, .unset, .unset, .unset, .unset, .unset, .unset] []))
  refine own_st (fun t k => XS.lloadN X0.here hx rfl (hb hby at_11) rfl k) ?_
  show own_Go p e below K (s₁.setTop (mkF m 12 #[.val (.long q1), .second, .val (.long q2), .second, .val (.long q3), .second, .val (.long q4), .second, .val (.long q5), .second, .val (.int c1), .val (.int d1), .unset, .unset, .unset, .unset, .unset, .unset, .unset, .unset, .unset, .unset, .unset] [(.long q2)]))
  refine own_st (fun t k => XS.bipush X0.here hx rfl (hb hby at_12) k) ?_
  show own_Go p e below K (s₁.setTop (mkF m 14 #[.val (.long q1), .second, .val (.long q2), .second, .val (.long q3), .second, .val (.long q4), .second, .val (.long q5), .second, .val (.int c1), .val (.int d1), .unset, .unset, .unset, .unset, .unset, .unset, .unset, .unset, .unset, .unset, .unset] [(.int (32 : Int32)), (.long q2)]))
  refine own_st (fun t k => XS.lushr X0.here hx rfl (hb hby at_14) rfl k) ?_
  show own_Go p e below K (s₁.setTop (mkF m 15 #[.val (.long q1), .second, .val (.long q2), .second, .val (.long q3), .second, .val (.long q4), .second, .val (.long q5), .second, .val (.int c1), .val (.int d1), .unset, .unset, .unset, .unset, .unset, .unset, .unset, .unset, .unset, .unset, .unset] [(.long ((q2.toUInt64 >>> ((32 : Int32) &&& 0x3f).toInt64.toUInt64).toInt64))]))
  refine own_st (fun t k => XS.l2i X0.here hx rfl (hb hby at_15) rfl k) ?_
  show own_Go p e below K (s₁.setTop (mkF m 16 #[.val (.long q1), .second, .val (.long q2), .second, .val (.long q3), .second, .val (.long q4), .second, .val (.long q5), .second, .val (.int c1), .val (.int d1), .unset, .unset, .unset, .unset, .unset, .unset, .unset, .unset, .unset, .unset, .unset] [(.int (((q2.toUInt64 >>> ((32 : Int32) &&& 0x3f).toInt64.toUInt64).toInt64).toInt32))]))
  generalize hc2 : (((q2.toUInt64 >>> ((32 : Int32) &&& 0x3f).toInt64.toUInt64).toInt64).toInt32) = c2
  show own_Go p e below K (s₁.setTop (mkF m 16 #[.val (.long q1), .second, .val (.long q2), .second, .val (.long q3), .second, .val (.long q4), .second, .val (.long q5), .second, .val (.int c1), .val (.int d1), .unset, .unset, .unset, .unset, .unset, .unset, .unset, .unset, .unset, .unset, .unset] [(.int c2)]))
  refine own_st (fun t k => XS.istore X0.here hx rfl (hb hby at_16) rfl (l' := #[.val (.long q1), .second, .val (.long q2), .second, .val (.long q3), .second, .val (.long q4), .second, .val (.long q5), .second, .val (.int c1), .val (.int d1), .val (.int c2), .unset, .unset, .unset, .unset, .unset, .unset, .unset, .unset, .unset, .unset]) rfl k) ?_
  show own_Go p e below K (s₁.setTop (mkF m 18 #[.val (.long q1), .second, .val (.long q2), .second, .val (.long q3), .second, .val (.long q4), .second, .val (.long q5), .second, .val (.int c1), .val (.int d1), .val (.int c2), .unset, .unset, .unset, .unset, .unset, .unset, .unset, .unset, .unset, .unset] []))
  refine own_st (fun t k => XS.lloadN X0.here hx rfl (hb hby at_18) rfl k) ?_
  show own_Go p e below K (s₁.setTop (mkF m 19 #[.val (.long q1), .second, .val (.long q2), .second, .val (.long q3), .second, .val (.long q4), .second, .val (.long q5), .second, .val (.int c1), .val (.int d1), .val (.int c2), .unset, .unset, .unset, .unset, .unset, .unset, .unset, .unset, .unset, .unset] [(.long q2)]))
  refine own_st (fun t k => XS.l2i X0.here hx rfl (hb hby at_19) rfl k) ?_
  show own_Go p e below K (s₁.setTop (mkF m 20 #[.val (.long q1), .second, .val (.long q2), .second, .val (.long q3), .second, .val (.long q4), .second, .val (.long q5), .second, .val (.int c1), .val (.int d1), .val (.int c2), .unset, .unset, .unset, .unset, .unset, .unset, .unset, .unset, .unset, .unset] [(.int (q2.toInt32))]))
  generalize hd2 : (q2.toInt32) = d2
  show own_Go p e below K (s₁.setTop (mkF m 20 #[.val (.long q1), .second, .val (.long q2), .second, .val (.long q3), .second, .val (.long q4), .second, .val (.long q5), .second, .val (.int c1), .val (.int d1), .val (.int c2), .unset, .unset, .unset, .unset, .unset, .unset, .unset, .unset, .unset, .unset] [(.int d2)]))
  refine own_st (fun t k => XS.istore X0.here hx rfl (hb hby at_20) rfl (l' := #[.val (.long q1), .second, .val (.long q2), .second, .val (.long q3), .second, .val (.long q4), .second, .val (.long q5), .second, .val (.int c1), .val (.int d1), .val (.int c2), .val (.int d2), .unset, .unset, .unset, .unset, .unset, .unset, .unset, .unset, .unset]) rfl k) ?_
  show own_Go p e below K (s₁.setTop (mkF m 22 #[.val (.long q1), .second, .val (.long q2), .second, .val (.long q3), .second, .val (.long q4), .second, .val (.long q5), .second, .val (.int c1), .val (.int d1), .val (.int c2), .val (.int d2), .unset, .unset, .unset, .unset, .unset, .unset, .unset, .unset, .unset] []))
  refine own_st (fun t k => XS.lload X0.here hx rfl (hb hby at_22) rfl k) ?_
  show own_Go p e below K (s₁.setTop (mkF m 24 #[.val (.long q1), .second, .val (.long q2), .second, .val (.long q3), .second, .val (.long q4), .second, .val (.long q5), .second, .val (.int c1), .val (.int d1), .val (.int c2), .val (.int d2), .unset, .unset, .unset, .unset, .unset, .unset, .unset, .unset, .unset] [(.long q3)]))
  refine own_st (fun t k => XS.bipush X0.here hx rfl (hb hby at_24) k) ?_
  show own_Go p e below K (s₁.setTop (mkF m 26 #[.val (.long q1), .second, .val (.long q2), .second, .val (.long q3), .second, .val (.long q4), .second, .val (.long q5), .second, .val (.int c1), .val (.int d1), .val (.int c2), .val (.int d2), .unset, .unset, .unset, .unset, .unset, .unset, .unset, .unset, .unset] [(.int (32 : Int32)), (.long q3)]))
  refine own_st (fun t k => XS.lushr X0.here hx rfl (hb hby at_26) rfl k) ?_
  show own_Go p e below K (s₁.setTop (mkF m 27 #[.val (.long q1), .second, .val (.long q2), .second, .val (.long q3), .second, .val (.long q4), .second, .val (.long q5), .second, .val (.int c1), .val (.int d1), .val (.int c2), .val (.int d2), .unset, .unset, .unset, .unset, .unset, .unset, .unset, .unset, .unset] [(.long ((q3.toUInt64 >>> ((32 : Int32) &&& 0x3f).toInt64.toUInt64).toInt64))]))
  refine own_st (fun t k => XS.l2i X0.here hx rfl (hb hby at_27) rfl k) ?_
  show own_Go p e below K (s₁.setTop (mkF m 28 #[.val (.long q1), .second, .val (.long q2), .second, .val (.long q3), .second, .val (.long q4), .second, .val (.long q5), .second, .val (.int c1), .val (.int d1), .val (.int c2), .val (.int d2), .unset, .unset, .unset, .unset, .unset, .unset, .unset, .unset, .unset] [(.int (((q3.toUInt64 >>> ((32 : Int32) &&& 0x3f).toInt64.toUInt64).toInt64).toInt32))]))
  generalize hc3 : (((q3.toUInt64 >>> ((32 : Int32) &&& 0x3f).toInt64.toUInt64).toInt64).toInt32) = c3
  show own_Go p e below K (s₁.setTop (mkF m 28 #[.val (.long q1), .second, .val (.long q2), .second, .val (.long q3), .second, .val (.long q4), .second, .val (.long q5), .second, .val (.int c1), .val (.int d1), .val (.int c2), .val (.int d2), .unset, .unset, .unset, .unset, .unset, .unset, .unset, .unset, .unset] [(.int c3)]))
  refine own_st (fun t k => XS.istore X0.here hx rfl (hb hby at_28) rfl (l' := #[.val (.long q1), .second, .val (.long q2), .second, .val (.long q3), .second, .val (.long q4), .second, .val (.long q5), .second, .val (.int c1), .val (.int d1), .val (.int c2), .val (.int d2), .val (.int c3), .unset, .unset, .unset, .unset, .unset, .unset, .unset, .unset]) rfl k) ?_
  show own_Go p e below K (s₁.setTop (mkF m 30 #[.val (.long q1), .second, .val (.long q2), .second, .val (.long q3), .second, .val (.long q4), .second, .val (.long q5), .second, .val (.int c1), .val (.int d1), .val (.int c2), .val (.int d2), .val (.int c3), .unset, .unset, .unset, .unset, .unset, .unset, .unset, .unset] []))
  refine own_st (fun t k => XS.lload X0.here hx rfl (hb hby at_30) rfl k) ?_
  show own_Go p e below K (s₁.setTop (mkF m 32 #[.val (.long q1), .second, .val (.long q2), .second, .val (.long q3), .second, .val (.long q4), .second, .val (.long q5), .second, .val (.int c1), .val (.int d1), .val (.int c2), .val (.int d2), .val (.int c3), .unset, .unset, .unset, .unset, .unset, .unset, .unset, .unset] [(.long q3)]))
  refine own_st (fun t k => XS.l2i X0.here hx rfl (hb hby at_32) rfl k) ?_
  show own_Go p e below K (s₁.setTop (mkF m 33 #[.val (.long q1), .second, .val (.long q2), .second, .val (.long q3), .second, .val (.long q4), .second, .val (.long q5), .second, .val (.int c1), .val (.int d1), .val (.int c2), .val (.int d2), .val (.int c3), .unset, .unset, .unset, .unset, .unset, .unset, .unset, .unset] [(.int (q3.toInt32))]))
  generalize hd3 : (q3.toInt32) = d3
  show own_Go p e below K (s₁.setTop (mkF m 33 #[.val (.long q1), .second, .val (.long q2), .second, .val (.long q3), .second, .val (.long q4), .second, .val (.long q5), .second, .val (.int c1), .val (.int d1), .val (.int c2), .val (.int d2), .val (.int c3), .unset, .unset, .unset, .unset, .unset, .unset, .unset, .unset] [(.int d3)]))
  refine own_st (fun t k => XS.istore X0.here hx rfl (hb hby at_33) rfl (l' := #[.val (.long q1), .second, .val (.long q2), .second, .val (.long q3), .second, .val (.long q4), .second, .val (.long q5), .second, .val (.int c1), .val (.int d1), .val (.int c2), .val (.int d2), .val (.int c3), .val (.int d3), .unset, .unset, .unset, .unset, .unset, .unset, .unset]) rfl k) ?_
  show own_Go p e below K (s₁.setTop (mkF m 35 #[.val (.long q1), .second, .val (.long q2), .second, .val (.long q3), .second, .val (.long q4), .second, .val (.long q5), .second, .val (.int c1), .val (.int d1), .val (.int c2), .val (.int d2), .val (.int c3), .val (.int d3), .unset, .unset, .unset, .unset, .unset, .unset, .unset] []))
  refine own_st (fun t k => XS.lload X0.here hx rfl (hb hby at_35) rfl k) ?_
  show own_Go p e below K (s₁.setTop (mkF m 37 #[.val (.long q1), .second, .val (.long q2), .second, .val (.long q3), .second, .val (.long q4), .second, .val (.long q5), .second, .val (.int c1), .val (.int d1), .val (.int c2), .val (.int d2), .val (.int c3), .val (.int d3), .unset, .unset, .unset, .unset, .unset, .unset, .unset] [(.long q4)]))
  refine own_st (fun t k => XS.bipush X0.here hx rfl (hb hby at_37) k) ?_
  show own_Go p e below K (s₁.setTop (mkF m 39 #[.val (.long q1), .second, .val (.long q2), .second, .val (.long q3), .second, .val (.long q4), .second, .val (.long q5), .second, .val (.int c1), .val (.int d1), .val (.int c2), .val (.int d2), .val (.int c3), .val (.int d3), .unset, .unset, .unset, .unset, .unset, .unset, .unset] [(.int (32 : Int32)), (.long q4)]))
  refine own_st (fun t k => XS.lushr X0.here hx rfl (hb hby at_39) rfl k) ?_
  show own_Go p e below K (s₁.setTop (mkF m 40 #[.val (.long q1), .second, .val (.long q2), .second, .val (.long q3), .second, .val (.long q4), .second, .val (.long q5), .second, .val (.int c1), .val (.int d1), .val (.int c2), .val (.int d2), .val (.int c3), .val (.int d3), .unset, .unset, .unset, .unset, .unset, .unset, .unset] [(.long ((q4.toUInt64 >>> ((32 : Int32) &&& 0x3f).toInt64.toUInt64).toInt64))]))
  refine own_st (fun t k => XS.l2i X0.here hx rfl (hb hby at_40) rfl k) ?_
  show own_Go p e below K (s₁.setTop (mkF m 41 #[.val (.long q1), .second, .val (.long q2), .second, .val (.long q3), .second, .val (.long q4), .second, .val (.long q5), .second, .val (.int c1), .val (.int d1), .val (.int c2), .val (.int d2), .val (.int c3), .val (.int d3), .unset, .unset, .unset, .unset, .unset, .unset, .unset] [(.int (((q4.toUInt64 >>> ((32 : Int32) &&& 0x3f).toInt64.toUInt64).toInt64).toInt32))]))
  generalize hc4 : (((q4.toUInt64 >>> ((32 : Int32) &&& 0x3f).toInt64.toUInt64).toInt64).toInt32) = c4
  show own_Go p e below K (s₁.setTop (mkF m 41 #[.val (.long q1), .second, .val (.long q2), .second, .val (.long q3), .second, .val (.long q4), .second, .val (.long q5), .second, .val (.int c1), .val (.int d1), .val (.int c2), .val (.int d2), .val (.int c3), .val (.int d3), .unset, .unset, .unset, .unset, .unset, .unset, .unset] [(.int c4)]))
  refine own_st (fun t k => XS.istore X0.here hx rfl (hb hby at_41) rfl (l' := #[.val (.long q1), .second, .val (.long q2), .second, .val (.long q3), .second, .val (.long q4), .second, .val (.long q5), .second, .val (.int c1), .val (.int d1), .val (.int c2), .val (.int d2), .val (.int c3), .val (.int d3), .val (.int c4), .unset, .unset, .unset, .unset, .unset, .unset]) rfl k) ?_
  show own_Go p e below K (s₁.setTop (mkF m 43 #[.val (.long q1), .second, .val (.long q2), .second, .val (.long q3), .second, .val (.long q4), .second, .val (.long q5), .second, .val (.int c1), .val (.int d1), .val (.int c2), .val (.int d2), .val (.int c3), .val (.int d3), .val (.int c4), .unset, .unset, .unset, .unset, .unset, .unset] []))
  refine own_st (fun t k => XS.lload X0.here hx rfl (hb hby at_43) rfl k) ?_
  show own_Go p e below K (s₁.setTop (mkF m 45 #[.val (.long q1), .second, .val (.long q2), .second, .val (.long q3), .second, .val (.long q4), .second, .val (.long q5), .second, .val (.int c1), .val (.int d1), .val (.int c2), .val (.int d2), .val (.int c3), .val (.int d3), .val (.int c4), .unset, .unset, .unset, .unset, .unset, .unset] [(.long q4)]))
  refine own_st (fun t k => XS.l2i X0.here hx rfl (hb hby at_45) rfl k) ?_
  show own_Go p e below K (s₁.setTop (mkF m 46 #[.val (.long q1), .second, .val (.long q2), .second, .val (.long q3), .second, .val (.long q4), .second, .val (.long q5), .second, .val (.int c1), .val (.int d1), .val (.int c2), .val (.int d2), .val (.int c3), .val (.int d3), .val (.int c4), .unset, .unset, .unset, .unset, .unset, .unset] [(.int (q4.toInt32))]))
  generalize hd4 : (q4.toInt32) = d4
  show own_Go p e below K (s₁.setTop (mkF m 46 #[.val (.long q1), .second, .val (.long q2), .second, .val (.long q3), .second, .val (.long q4), .second, .val (.long q5), .second, .val (.int c1), .val (.int d1), .val (.int c2), .val (.int d2), .val (.int c3), .val (.int d3), .val (.int c4), .unset, .unset, .unset, .unset, .unset, .unset] [(.int d4)]))
  refine own_st (fun t k => XS.istore X0.here hx rfl (hb hby at_46) rfl (l' := #[.val (.long q1), .second, .val (.long q2), .second, .val (.long q3), .second, .val (.long q4), .second, .val (.long q5), .second, .val (.int c1), .val (.int d1), .val (.int c2), .val (.int d2), .val (.int c3), .val (.int d3), .val (.int c4), .val (.int d4), .unset, .unset, .unset, .unset, .unset]) rfl k) ?_
  show own_Go p e below K (s₁.setTop (mkF m 48 #[.val (.long q1), .second, .val (.long q2), .second, .val (.long q3), .second, .val (.long q4), .second, .val (.long q5), .second, .val (.int c1), .val (.int d1), .val (.int c2), .val (.int d2), .val (.int c3), .val (.int d3), .val (.int c4), .val (.int d4), .unset, .unset, .unset, .unset, .unset] []))
  refine own_st (fun t k => XS.lload X0.here hx rfl (hb hby at_48) rfl k) ?_
  show own_Go p e below K (s₁.setTop (mkF m 50 #[.val (.long q1), .second, .val (.long q2), .second, .val (.long q3), .second, .val (.long q4), .second, .val (.long q5), .second, .val (.int c1), .val (.int d1), .val (.int c2), .val (.int d2), .val (.int c3), .val (.int d3), .val (.int c4), .val (.int d4), .unset, .unset, .unset, .unset, .unset] [(.long q5)]))
  refine own_st (fun t k => XS.bipush X0.here hx rfl (hb hby at_50) k) ?_
  show own_Go p e below K (s₁.setTop (mkF m 52 #[.val (.long q1), .second, .val (.long q2), .second, .val (.long q3), .second, .val (.long q4), .second, .val (.long q5), .second, .val (.int c1), .val (.int d1), .val (.int c2), .val (.int d2), .val (.int c3), .val (.int d3), .val (.int c4), .val (.int d4), .unset, .unset, .unset, .unset, .unset] [(.int (32 : Int32)), (.long q5)]))
  refine own_st (fun t k => XS.lushr X0.here hx rfl (hb hby at_52) rfl k) ?_
  show own_Go p e below K (s₁.setTop (mkF m 53 #[.val (.long q1), .second, .val (.long q2), .second, .val (.long q3), .second, .val (.long q4), .second, .val (.long q5), .second, .val (.int c1), .val (.int d1), .val (.int c2), .val (.int d2), .val (.int c3), .val (.int d3), .val (.int c4), .val (.int d4), .unset, .unset, .unset, .unset, .unset] [(.long ((q5.toUInt64 >>> ((32 : Int32) &&& 0x3f).toInt64.toUInt64).toInt64))]))
  refine own_st (fun t k => XS.l2i X0.here hx rfl (hb hby at_53) rfl k) ?_
  show own_Go p e below K (s₁.setTop (mkF m 54 #[.val (.long q1), .second, .val (.long q2), .second, .val (.long q3), .second, .val (.long q4), .second, .val (.long q5), .second, .val (.int c1), .val (.int d1), .val (.int c2), .val (.int d2), .val (.int c3), .val (.int d3), .val (.int c4), .val (.int d4), .unset, .unset, .unset, .unset, .unset] [(.int (((q5.toUInt64 >>> ((32 : Int32) &&& 0x3f).toInt64.toUInt64).toInt64).toInt32))]))
  generalize hc5 : (((q5.toUInt64 >>> ((32 : Int32) &&& 0x3f).toInt64.toUInt64).toInt64).toInt32) = c5
  show own_Go p e below K (s₁.setTop (mkF m 54 #[.val (.long q1), .second, .val (.long q2), .second, .val (.long q3), .second, .val (.long q4), .second, .val (.long q5), .second, .val (.int c1), .val (.int d1), .val (.int c2), .val (.int d2), .val (.int c3), .val (.int d3), .val (.int c4), .val (.int d4), .unset, .unset, .unset, .unset, .unset] [(.int c5)]))
  refine own_st (fun t k => XS.istore X0.here hx rfl (hb hby at_54) rfl (l' := #[.val (.long q1), .second, .val (.long q2), .second, .val (.long q3), .second, .val (.long q4), .second, .val (.long q5), .second, .val (.int c1), .val (.int d1), .val (.int c2), .val (.int d2), .val (.int c3), .val (.int d3), .val (.int c4), .val (.int d4), .val (.int c5), .unset, .unset, .unset, .unset]) rfl k) ?_
  show own_Go p e below K (s₁.setTop (mkF m 56 #[.val (.long q1), .second, .val (.long q2), .second, .val (.long q3), .second, .val (.long q4), .second, .val (.long q5), .second, .val (.int c1), .val (.int d1), .val (.int c2), .val (.int d2), .val (.int c3), .val (.int d3), .val (.int c4), .val (.int d4), .val (.int c5), .unset, .unset, .unset, .unset] []))
  refine own_st (fun t k => XS.lload X0.here hx rfl (hb hby at_56) rfl k) ?_
  show own_Go p e below K (s₁.setTop (mkF m 58 #[.val (.long q1), .second, .val (.long q2), .second, .val (.long q3), .second, .val (.long q4), .second, .val (.long q5), .second, .val (.int c1), .val (.int d1), .val (.int c2), .val (.int d2), .val (.int c3), .val (.int d3), .val (.int c4), .val (.int d4), .val (.int c5), .unset, .unset, .unset, .unset] [(.long q5)]))
  refine own_st (fun t k => XS.l2i X0.here hx rfl (hb hby at_58) rfl k) ?_
  show own_Go p e below K (s₁.setTop (mkF m 59 #[.val (.long q1), .second, .val (.long q2), .second, .val (.long q3), .second, .val (.long q4), .second, .val (.long q5), .second, .val (.int c1), .val (.int d1), .val (.int c2), .val (.int d2), .val (.int c3), .val (.int d3), .val (.int c4), .val (.int d4), .val (.int c5), .unset, .unset, .unset, .unset] [(.int (q5.toInt32))]))
  generalize hd5 : (q5.toInt32) = d5
  show own_Go p e below K (s₁.setTop (mkF m 59 #[.val (.long q1), .second, .val (.long q2), .second, .val (.long q3), .second, .val (.long q4), .second, .val (.long q5), .second, .val (.int c1), .val (.int d1), .val (.int c2), .val (.int d2), .val (.int c3), .val (.int d3), .val (.int c4), .val (.int d4), .val (.int c5), .unset, .unset, .unset, .unset] [(.int d5)]))
  refine own_st (fun t k => XS.istore X0.here hx rfl (hb hby at_59) rfl (l' := #[.val (.long q1), .second, .val (.long q2), .second, .val (.long q3), .second, .val (.long q4), .second, .val (.long q5), .second, .val (.int c1), .val (.int d1), .val (.int c2), .val (.int d2), .val (.int c3), .val (.int d3), .val (.int c4), .val (.int d4), .val (.int c5), .val (.int d5), .unset, .unset, .unset]) rfl k) ?_
  show own_Go p e below K (s₁.setTop (mkF m 61 #[.val (.long q1), .second, .val (.long q2), .second, .val (.long q3), .second, .val (.long q4), .second, .val (.long q5), .second, .val (.int c1), .val (.int d1), .val (.int c2), .val (.int d2), .val (.int c3), .val (.int d3), .val (.int c4), .val (.int d4), .val (.int c5), .val (.int d5), .unset, .unset, .unset] []))
  obtain ⟨T1, h1, X1, e1, E1, A1, D1, -, st1⟩ := newO X0 hx hZ hown (hw _ (List.mem_of_getElem? (i := 0) rfl)) (hw _ (List.mem_of_getElem? (i := 1) rfl)) (hw _ (List.mem_of_getElem? (i := 2) rfl)) e0 (g := (mkF m 61 #[.val (.long q1), .second, .val (.long q2), .second, .val (.long q3), .second, .val (.long q4), .second, .val (.long q5), .second, .val (.int c1), .val (.int d1), .val (.int c2), .val (.int d2), .val (.int c3), .val (.int d3), .val (.int c4), .val (.int d4), .val (.int c5), .val (.int d5), .unset, .unset, .unset] [])) rfl (hb hby at_61) (by decide) (by decide)
  obtain ⟨b1, g1⟩ : ∃ z, z = h0.size := ⟨_, rfl⟩
  rw [← g1] at A1 D1 st1
  have g_b1 : n0 ≤ b1 := Nat.le_trans Z0 (Nat.le_of_eq g1.symm)
  have f2 : Fld Z h1 b1 "com/example/coverbill/coverbill/charge/ChargeRunResult" "complete" "I" (.int (0 : Int32)) := D1 (Or.inr (hw _ (List.mem_of_getElem? (i := 10) rfl))) (ty := .int) (by decide)
  have f3 : Fld Z h1 b1 "com/example/coverbill/coverbill/charge/ChargeRunResult" "error" "I" (.int (0 : Int32)) := D1 (Or.inr (hw _ (List.mem_of_getElem? (i := 12) rfl))) (ty := .int) (by decide)
  have f4 : Fld Z h1 b1 "com/example/coverbill/coverbill/charge/ChargeRunResult" "chargesCreated" "I" (.int (0 : Int32)) := D1 (Or.inr (hw _ (List.mem_of_getElem? (i := 14) rfl))) (ty := .int) (by decide)
  have f5 : Fld Z h1 b1 "com/example/coverbill/coverbill/charge/ChargeRunResult" "endDatesChanged" "I" (.int (0 : Int32)) := D1 (Or.inr (hw _ (List.mem_of_getElem? (i := 16) rfl))) (ty := .int) (by decide)
  have f6 : Fld Z h1 b1 "com/example/coverbill/coverbill/charge/ChargeRunResult" "chargesCanceled" "I" (.int (0 : Int32)) := D1 (Or.inr (hw _ (List.mem_of_getElem? (i := 18) rfl))) (ty := .int) (by decide)
  have Z1 : n0 ≤ h1.size := Nat.le_trans Z0 E1.1
  refine own_st st1 ?_
  show own_Go p e below K (T1.setTop (mkF m 64 #[.val (.long q1), .second, .val (.long q2), .second, .val (.long q3), .second, .val (.long q4), .second, .val (.long q5), .second, .val (.int c1), .val (.int d1), .val (.int c2), .val (.int d2), .val (.int c3), .val (.int d3), .val (.int c4), .val (.int d4), .val (.int c5), .val (.int d5), .unset, .unset, .unset] [(.ref b1)]))
  refine own_st (fun t k => XS.dup X1.here hx rfl (hb hby at_64) rfl rfl k) ?_
  show own_Go p e below K (T1.setTop (mkF m 65 #[.val (.long q1), .second, .val (.long q2), .second, .val (.long q3), .second, .val (.long q4), .second, .val (.long q5), .second, .val (.int c1), .val (.int d1), .val (.int c2), .val (.int d2), .val (.int c3), .val (.int d3), .val (.int c4), .val (.int d4), .val (.int c5), .val (.int d5), .unset, .unset, .unset] [(.ref b1), (.ref b1)]))
  refine own_st (fun t k => XS.iload X1.here hx rfl (hb hby at_65) rfl k) ?_
  show own_Go p e below K (T1.setTop (mkF m 67 #[.val (.long q1), .second, .val (.long q2), .second, .val (.long q3), .second, .val (.long q4), .second, .val (.long q5), .second, .val (.int c1), .val (.int d1), .val (.int c2), .val (.int d2), .val (.int c3), .val (.int d3), .val (.int c4), .val (.int d4), .val (.int c5), .val (.int d5), .unset, .unset, .unset] [(.int c1), (.ref b1), (.ref b1)]))
  refine own_st (fun t k => XS.iload X1.here hx rfl (hb hby at_67) rfl k) ?_
  show own_Go p e below K (T1.setTop (mkF m 69 #[.val (.long q1), .second, .val (.long q2), .second, .val (.long q3), .second, .val (.long q4), .second, .val (.long q5), .second, .val (.int c1), .val (.int d1), .val (.int c2), .val (.int d2), .val (.int c3), .val (.int d3), .val (.int c4), .val (.int d4), .val (.int c5), .val (.int d5), .unset, .unset, .unset] [(.int c2), (.int c1), (.ref b1), (.ref b1)]))
  refine own_st (fun t k => XS.iload X1.here hx rfl (hb hby at_69) rfl k) ?_
  show own_Go p e below K (T1.setTop (mkF m 71 #[.val (.long q1), .second, .val (.long q2), .second, .val (.long q3), .second, .val (.long q4), .second, .val (.long q5), .second, .val (.int c1), .val (.int d1), .val (.int c2), .val (.int d2), .val (.int c3), .val (.int d3), .val (.int c4), .val (.int d4), .val (.int c5), .val (.int d5), .unset, .unset, .unset] [(.int c3), (.int c2), (.int c1), (.ref b1), (.ref b1)]))
  refine own_st (fun t k => XS.iload X1.here hx rfl (hb hby at_71) rfl k) ?_
  show own_Go p e below K (T1.setTop (mkF m 73 #[.val (.long q1), .second, .val (.long q2), .second, .val (.long q3), .second, .val (.long q4), .second, .val (.long q5), .second, .val (.int c1), .val (.int d1), .val (.int c2), .val (.int d2), .val (.int c3), .val (.int d3), .val (.int c4), .val (.int d4), .val (.int c5), .val (.int d5), .unset, .unset, .unset] [(.int c4), (.int c3), (.int c2), (.int c1), (.ref b1), (.ref b1)]))
  refine own_st (fun t k => XS.iload X1.here hx rfl (hb hby at_73) rfl k) ?_
  show own_Go p e below K (T1.setTop (mkF m 75 #[.val (.long q1), .second, .val (.long q2), .second, .val (.long q3), .second, .val (.long q4), .second, .val (.long q5), .second, .val (.int c1), .val (.int d1), .val (.int c2), .val (.int d2), .val (.int c3), .val (.int d3), .val (.int c4), .val (.int d4), .val (.int c5), .val (.int d5), .unset, .unset, .unset] [(.int c5), (.int c4), (.int c3), (.int c2), (.int c1), (.ref b1), (.ref b1)]))
  obtain ⟨_, _, ⟨T7, L7, k7, n7⟩, -, X7, ⟨Lc7, hQ7, l7, y7, z7⟩, st7⟩ := X1.specialBack hx (y := (⟨"com/example/coverbill/coverbill/charge/ChargeRunResult", "<init>", "(IIIII)V"⟩ : MethodName)) rfl hown (mvT hZ (hw _ (List.mem_of_getElem? (i := 3) rfl))) (mvT hZ (hw _ (List.mem_of_getElem? (i := 4) rfl))) (mvT hZ (hw _ (List.mem_of_getElem? (i := 5) rfl))) (by decide) (backOf (W := 1) (rm1 l Z a0 hw [] b1 c1 c2 c3 c4 c5 h1 n0 Z1 g_b1 A1 f2 f3 f4 f5 f6) hZ (hw _ (List.mem_of_getElem? (i := 5) rfl)) (hw _ (List.mem_of_getElem? (i := 2) rfl)) (by decide) (by decide)) (g := (mkF m 75 #[.val (.long q1), .second, .val (.long q2), .second, .val (.long q3), .second, .val (.long q4), .second, .val (.long q5), .second, .val (.int c1), .val (.int d1), .val (.int c2), .val (.int d2), .val (.int c3), .val (.int d3), .val (.int c4), .val (.int d4), .val (.int c5), .val (.int d5), .unset, .unset, .unset] [(.int c5), (.int c4), (.int c3), (.int c2), (.int c1), (.ref b1), (.ref b1)])) rfl (by rw [hml]; rfl) (Steps.refl _) (a := b1) (argsL := [(.int c1), (.int c2), (.int c3), (.int c4), (.int c5)]) (rest := [(.ref b1)]) (lenOf pd_0_0 rfl) rfl (by show 2 * 0 + _ ≤ _; exact Nat.le_of_eq rfl) (hb hby at_75) (fun _ _ => ⟨rfl, e1, (by decide : 1 + 0 ≤ _), (by decide : 5 + 0 ≤ _)⟩)
  dsimp only [Pt.U, Pt.locs, Pt.cells, Pt.slots] at X7 l7 y7 z7 st7 hQ7
  subst l7 y7 z7
  obtain ⟨rfl, N7q, Kq7, p7_0, p7_1, p7_2, p7_3, p7_4, p7_5⟩ := hQ7
  have N7 := Fr.app N0 N7q
  have Z7 : n0 ≤ T7.heap.size := Nat.le_trans Z1 Kq7.1
  refine own_tr st7 ?_
  show own_Go p e below K (T7.setTop (mkF m 78 #[.val (.long q1), .second, .val (.long q2), .second, .val (.long q3), .second, .val (.long q4), .second, .val (.long q5), .second, .val (.int c1), .val (.int d1), .val (.int c2), .val (.int d2), .val (.int c3), .val (.int d3), .val (.int c4), .val (.int d4), .val (.int c5), .val (.int d5), .unset, .unset, .unset] [(.ref b1)]))
  refine own_st (fun t k => XS.astore X7.here hx rfl (hb hby at_78) rfl rfl (l' := #[.val (.long q1), .second, .val (.long q2), .second, .val (.long q3), .second, .val (.long q4), .second, .val (.long q5), .second, .val (.int c1), .val (.int d1), .val (.int c2), .val (.int d2), .val (.int c3), .val (.int d3), .val (.int c4), .val (.int d4), .val (.int c5), .val (.int d5), .val (.ref b1), .unset, .unset]) rfl k) ?_
  show own_Go p e below K (T7.setTop (mkF m 80 #[.val (.long q1), .second, .val (.long q2), .second, .val (.long q3), .second, .val (.long q4), .second, .val (.long q5), .second, .val (.int c1), .val (.int d1), .val (.int c2), .val (.int d2), .val (.int c3), .val (.int d3), .val (.int c4), .val (.int d4), .val (.int c5), .val (.int d5), .val (.ref b1), .unset, .unset] []))
  obtain ⟨T8, h8, X8, e8, E8, A8, D8, -, st8⟩ := newO X7 hx hZ hown (hw _ (List.mem_of_getElem? (i := 0) rfl)) (hw _ (List.mem_of_getElem? (i := 1) rfl)) (hw _ (List.mem_of_getElem? (i := 2) rfl)) rfl (g := (mkF m 80 #[.val (.long q1), .second, .val (.long q2), .second, .val (.long q3), .second, .val (.long q4), .second, .val (.long q5), .second, .val (.int c1), .val (.int d1), .val (.int c2), .val (.int d2), .val (.int c3), .val (.int d3), .val (.int c4), .val (.int d4), .val (.int c5), .val (.int d5), .val (.ref b1), .unset, .unset] [])) rfl (hb hby at_80) (by decide) (by decide)
  obtain ⟨b8, g8⟩ : ∃ z, z = T7.heap.size := ⟨_, rfl⟩
  rw [← g8] at A8 D8 st8
  have ne_b1_b8 : b1 ≠ b8 := Nat.ne_of_lt (Nat.lt_of_lt_of_le p7_0.lt (Nat.le_of_eq g8.symm))
  have g_b8 : n0 ≤ b8 := Nat.le_trans Z7 (Nat.le_of_eq g8.symm)
  have f9 : Exa Z h8 b1 "com/example/coverbill/coverbill/charge/ChargeRunResult" := p7_0.ext E8
  have f10 : Fld Z h8 b1 "com/example/coverbill/coverbill/charge/ChargeRunResult" "complete" "I" (.int c1) := p7_1.ext E8
  have f11 : Fld Z h8 b1 "com/example/coverbill/coverbill/charge/ChargeRunResult" "error" "I" (.int c2) := p7_2.ext E8
  have f12 : Fld Z h8 b1 "com/example/coverbill/coverbill/charge/ChargeRunResult" "chargesCreated" "I" (.int c3) := p7_3.ext E8
  have f13 : Fld Z h8 b1 "com/example/coverbill/coverbill/charge/ChargeRunResult" "endDatesChanged" "I" (.int c4) := p7_4.ext E8
  have f14 : Fld Z h8 b1 "com/example/coverbill/coverbill/charge/ChargeRunResult" "chargesCanceled" "I" (.int c5) := p7_5.ext E8
  have f15 : Fld Z h8 b8 "com/example/coverbill/coverbill/charge/ChargeRunResult" "complete" "I" (.int (0 : Int32)) := D8 (Or.inr (hw _ (List.mem_of_getElem? (i := 10) rfl))) (ty := .int) (by decide)
  have f16 : Fld Z h8 b8 "com/example/coverbill/coverbill/charge/ChargeRunResult" "error" "I" (.int (0 : Int32)) := D8 (Or.inr (hw _ (List.mem_of_getElem? (i := 12) rfl))) (ty := .int) (by decide)
  have f17 : Fld Z h8 b8 "com/example/coverbill/coverbill/charge/ChargeRunResult" "chargesCreated" "I" (.int (0 : Int32)) := D8 (Or.inr (hw _ (List.mem_of_getElem? (i := 14) rfl))) (ty := .int) (by decide)
  have f18 : Fld Z h8 b8 "com/example/coverbill/coverbill/charge/ChargeRunResult" "endDatesChanged" "I" (.int (0 : Int32)) := D8 (Or.inr (hw _ (List.mem_of_getElem? (i := 16) rfl))) (ty := .int) (by decide)
  have f19 : Fld Z h8 b8 "com/example/coverbill/coverbill/charge/ChargeRunResult" "chargesCanceled" "I" (.int (0 : Int32)) := D8 (Or.inr (hw _ (List.mem_of_getElem? (i := 18) rfl))) (ty := .int) (by decide)
  have Z8 : n0 ≤ h8.size := Nat.le_trans Z7 E8.1
  refine own_st st8 ?_
  show own_Go p e below K (T8.setTop (mkF m 83 #[.val (.long q1), .second, .val (.long q2), .second, .val (.long q3), .second, .val (.long q4), .second, .val (.long q5), .second, .val (.int c1), .val (.int d1), .val (.int c2), .val (.int d2), .val (.int c3), .val (.int d3), .val (.int c4), .val (.int d4), .val (.int c5), .val (.int d5), .val (.ref b1), .unset, .unset] [(.ref b8)]))
  refine own_st (fun t k => XS.dup X8.here hx rfl (hb hby at_83) rfl rfl k) ?_
  show own_Go p e below K (T8.setTop (mkF m 84 #[.val (.long q1), .second, .val (.long q2), .second, .val (.long q3), .second, .val (.long q4), .second, .val (.long q5), .second, .val (.int c1), .val (.int d1), .val (.int c2), .val (.int d2), .val (.int c3), .val (.int d3), .val (.int c4), .val (.int d4), .val (.int c5), .val (.int d5), .val (.ref b1), .unset, .unset] [(.ref b8), (.ref b8)]))
  refine own_st (fun t k => XS.iload X8.here hx rfl (hb hby at_84) rfl k) ?_
  show own_Go p e below K (T8.setTop (mkF m 86 #[.val (.long q1), .second, .val (.long q2), .second, .val (.long q3), .second, .val (.long q4), .second, .val (.long q5), .second, .val (.int c1), .val (.int d1), .val (.int c2), .val (.int d2), .val (.int c3), .val (.int d3), .val (.int c4), .val (.int d4), .val (.int c5), .val (.int d5), .val (.ref b1), .unset, .unset] [(.int d1), (.ref b8), (.ref b8)]))
  refine own_st (fun t k => XS.iload X8.here hx rfl (hb hby at_86) rfl k) ?_
  show own_Go p e below K (T8.setTop (mkF m 88 #[.val (.long q1), .second, .val (.long q2), .second, .val (.long q3), .second, .val (.long q4), .second, .val (.long q5), .second, .val (.int c1), .val (.int d1), .val (.int c2), .val (.int d2), .val (.int c3), .val (.int d3), .val (.int c4), .val (.int d4), .val (.int c5), .val (.int d5), .val (.ref b1), .unset, .unset] [(.int d2), (.int d1), (.ref b8), (.ref b8)]))
  refine own_st (fun t k => XS.iload X8.here hx rfl (hb hby at_88) rfl k) ?_
  show own_Go p e below K (T8.setTop (mkF m 90 #[.val (.long q1), .second, .val (.long q2), .second, .val (.long q3), .second, .val (.long q4), .second, .val (.long q5), .second, .val (.int c1), .val (.int d1), .val (.int c2), .val (.int d2), .val (.int c3), .val (.int d3), .val (.int c4), .val (.int d4), .val (.int c5), .val (.int d5), .val (.ref b1), .unset, .unset] [(.int d3), (.int d2), (.int d1), (.ref b8), (.ref b8)]))
  refine own_st (fun t k => XS.iload X8.here hx rfl (hb hby at_90) rfl k) ?_
  show own_Go p e below K (T8.setTop (mkF m 92 #[.val (.long q1), .second, .val (.long q2), .second, .val (.long q3), .second, .val (.long q4), .second, .val (.long q5), .second, .val (.int c1), .val (.int d1), .val (.int c2), .val (.int d2), .val (.int c3), .val (.int d3), .val (.int c4), .val (.int d4), .val (.int c5), .val (.int d5), .val (.ref b1), .unset, .unset] [(.int d4), (.int d3), (.int d2), (.int d1), (.ref b8), (.ref b8)]))
  refine own_st (fun t k => XS.iload X8.here hx rfl (hb hby at_92) rfl k) ?_
  show own_Go p e below K (T8.setTop (mkF m 94 #[.val (.long q1), .second, .val (.long q2), .second, .val (.long q3), .second, .val (.long q4), .second, .val (.long q5), .second, .val (.int c1), .val (.int d1), .val (.int c2), .val (.int d2), .val (.int c3), .val (.int d3), .val (.int c4), .val (.int d4), .val (.int c5), .val (.int d5), .val (.ref b1), .unset, .unset] [(.int d5), (.int d4), (.int d3), (.int d2), (.int d1), (.ref b8), (.ref b8)]))
  obtain ⟨_, _, ⟨T20, L20, k20, n20⟩, -, X20, ⟨Lc20, hQ20, l20, y20, z20⟩, st20⟩ := X8.specialBack hx (y := (⟨"com/example/coverbill/coverbill/charge/ChargeRunResult", "<init>", "(IIIII)V"⟩ : MethodName)) rfl hown (mvT hZ (hw _ (List.mem_of_getElem? (i := 3) rfl))) (mvT hZ (hw _ (List.mem_of_getElem? (i := 4) rfl))) (mvT hZ (hw _ (List.mem_of_getElem? (i := 5) rfl))) (by decide) (backOf (W := 1) (rm1 l Z a0 hw [] b8 d1 d2 d3 d4 d5 h8 n0 Z8 g_b8 A8 f15 f16 f17 f18 f19) hZ (hw _ (List.mem_of_getElem? (i := 5) rfl)) (hw _ (List.mem_of_getElem? (i := 2) rfl)) (by decide) (by decide)) (g := (mkF m 94 #[.val (.long q1), .second, .val (.long q2), .second, .val (.long q3), .second, .val (.long q4), .second, .val (.long q5), .second, .val (.int c1), .val (.int d1), .val (.int c2), .val (.int d2), .val (.int c3), .val (.int d3), .val (.int c4), .val (.int d4), .val (.int c5), .val (.int d5), .val (.ref b1), .unset, .unset] [(.int d5), (.int d4), (.int d3), (.int d2), (.int d1), (.ref b8), (.ref b8)])) rfl (by rw [hml]; rfl) (Steps.refl _) (a := b8) (argsL := [(.int d1), (.int d2), (.int d3), (.int d4), (.int d5)]) (rest := [(.ref b8)]) (lenOf pd_0_0 rfl) rfl (by show 2 * 0 + _ ≤ _; exact Nat.le_of_eq rfl) (hb hby at_94) (fun _ _ => ⟨rfl, e8, (by decide : 2 + 0 ≤ _), (by decide : 10 + 0 ≤ _)⟩)
  dsimp only [Pt.U, Pt.locs, Pt.cells, Pt.slots] at X20 l20 y20 z20 st20 hQ20
  subst l20 y20 z20
  obtain ⟨rfl, N20q, Kq20, p20_0, p20_1, p20_2, p20_3, p20_4, p20_5⟩ := hQ20
  have N20 := Fr.app N7 N20q
  have f21 : Exa Z T20.heap b1 "com/example/coverbill/coverbill/charge/ChargeRunResult" := f9.keep Kq20
  have f22 : Fld Z T20.heap b1 "com/example/coverbill/coverbill/charge/ChargeRunResult" "complete" "I" (.int c1) := f10.keep Kq20 (ninS ne_b1_b8 nin0)
  have f23 : Fld Z T20.heap b1 "com/example/coverbill/coverbill/charge/ChargeRunResult" "error" "I" (.int c2) := f11.keep Kq20 (ninS ne_b1_b8 nin0)
  have f24 : Fld Z T20.heap b1 "com/example/coverbill/coverbill/charge/ChargeRunResult" "chargesCreated" "I" (.int c3) := f12.keep Kq20 (ninS ne_b1_b8 nin0)
  have f25 : Fld Z T20.heap b1 "com/example/coverbill/coverbill/charge/ChargeRunResult" "endDatesChanged" "I" (.int c4) := f13.keep Kq20 (ninS ne_b1_b8 nin0)
  have f26 : Fld Z T20.heap b1 "com/example/coverbill/coverbill/charge/ChargeRunResult" "chargesCanceled" "I" (.int c5) := f14.keep Kq20 (ninS ne_b1_b8 nin0)
  have Z20 : n0 ≤ T20.heap.size := Nat.le_trans Z8 Kq20.1
  refine own_tr st20 ?_
  show own_Go p e below K (T20.setTop (mkF m 97 #[.val (.long q1), .second, .val (.long q2), .second, .val (.long q3), .second, .val (.long q4), .second, .val (.long q5), .second, .val (.int c1), .val (.int d1), .val (.int c2), .val (.int d2), .val (.int c3), .val (.int d3), .val (.int c4), .val (.int d4), .val (.int c5), .val (.int d5), .val (.ref b1), .unset, .unset] [(.ref b8)]))
  refine own_st (fun t k => XS.astore X20.here hx rfl (hb hby at_97) rfl rfl (l' := #[.val (.long q1), .second, .val (.long q2), .second, .val (.long q3), .second, .val (.long q4), .second, .val (.long q5), .second, .val (.int c1), .val (.int d1), .val (.int c2), .val (.int d2), .val (.int c3), .val (.int d3), .val (.int c4), .val (.int d4), .val (.int c5), .val (.int d5), .val (.ref b1), .val (.ref b8), .unset]) rfl k) ?_
  show own_Go p e below K (T20.setTop (mkF m 99 #[.val (.long q1), .second, .val (.long q2), .second, .val (.long q3), .second, .val (.long q4), .second, .val (.long q5), .second, .val (.int c1), .val (.int d1), .val (.int c2), .val (.int d2), .val (.int c3), .val (.int d3), .val (.int c4), .val (.int d4), .val (.int c5), .val (.int d5), .val (.ref b1), .val (.ref b8), .unset] []))
  refine own_st (fun t k => XS.aload X20.here hx rfl (hb hby at_99) rfl rfl k) ?_
  show own_Go p e below K (T20.setTop (mkF m 101 #[.val (.long q1), .second, .val (.long q2), .second, .val (.long q3), .second, .val (.long q4), .second, .val (.long q5), .second, .val (.int c1), .val (.int d1), .val (.int c2), .val (.int d2), .val (.int c3), .val (.int d3), .val (.int c4), .val (.int d4), .val (.int c5), .val (.int d5), .val (.ref b1), .val (.ref b8), .unset] [(.ref b1)]))
  refine own_st (fun t k => XS.aload X20.here hx rfl (hb hby at_101) rfl rfl k) ?_
  show own_Go p e below K (T20.setTop (mkF m 103 #[.val (.long q1), .second, .val (.long q2), .second, .val (.long q3), .second, .val (.long q4), .second, .val (.long q5), .second, .val (.int c1), .val (.int d1), .val (.int c2), .val (.int d2), .val (.int c3), .val (.int d3), .val (.int c4), .val (.int d4), .val (.int c5), .val (.int d5), .val (.ref b1), .val (.ref b8), .unset] [(.ref b8), (.ref b1)]))
  obtain ⟨cq27, kq27, q27a, q27b, q27c⟩ := isOf hZ rfl f21
  obtain ⟨_, _, ⟨T27, L27, k27, n27⟩, -, X27, ⟨Lc27, hQ27, l27, y27, z27⟩, st27⟩ := X20.virtualBack hx (y := (⟨"com/example/coverbill/coverbill/charge/ChargeRunResult", "plus", "(Lcom/example/coverbill/coverbill/charge/ChargeRunResult;)Lcom/example/coverbill/coverbill/charge/ChargeRunResult;"⟩ : MethodName)) (z := (⟨"com/example/coverbill/coverbill/charge/ChargeRunResult", "plus", "(Lcom/example/coverbill/coverbill/charge/ChargeRunResult;)Lcom/example/coverbill/coverbill/charge/ChargeRunResult;"⟩ : MethodName)) hown (mvT hZ (hw _ (List.mem_of_getElem? (i := 19) rfl))) (mvT hZ (hw _ (List.mem_of_getElem? (i := 20) rfl))) (notFace_of_selects (args := #[]) (mvT hZ (hw _ (List.mem_of_getElem? (i := 22) rfl)))) (mvT hZ (hw _ (List.mem_of_getElem? (i := 22) rfl))) (mvT hZ (hw _ (List.mem_of_getElem? (i := 21) rfl))) (by decide) (backOf (W := 0) (rm3 l Z a0 hw [] b1 b8 (c1) (c2) (c3) (c4) (c5) (d1) (d2) (d3) (d4) (d5) T20.heap n0 Z20 f22 f23 f24 f25 f26 p20_1 p20_2 p20_3 p20_4 p20_5) hZ (hw _ (List.mem_of_getElem? (i := 23) rfl)) (hw _ (List.mem_of_getElem? (i := 2) rfl)) (by decide) (by decide)) q27a q27c (g := (mkF m 103 #[.val (.long q1), .second, .val (.long q2), .second, .val (.long q3), .second, .val (.long q4), .second, .val (.long q5), .second, .val (.int c1), .val (.int d1), .val (.int c2), .val (.int d2), .val (.int c3), .val (.int d3), .val (.int c4), .val (.int d4), .val (.int c5), .val (.int d5), .val (.ref b1), .val (.ref b8), .unset] [(.ref b8), (.ref b1)])) rfl (by rw [hml]; rfl) (Steps.refl _) (argsL := [(.ref b8)]) (rest := []) (lenOf pd_0_2 rfl) rfl (by show 2 * 0 + _ ≤ _; exact Nat.le_of_eq rfl) (hb hby at_103) (fun _ _ => ⟨rfl, rfl, (by decide : 2 + 1 ≤ _), (by decide : 10 + 5 ≤ _)⟩)
  dsimp only [Pt.U, Pt.locs, Pt.cells, Pt.slots] at X27 l27 y27 z27 st27 hQ27
  subst l27 y27 z27
  obtain ⟨r27, rfl, hr27, fr27, N27q, Kq27, p27_0, p27_1, p27_2, p27_3, p27_4, p27_5⟩ := hQ27
  have N27 := Fr.app N20 N27q
  have ne_b1_r27 : b1 ≠ r27 := Nat.ne_of_lt (Nat.lt_of_lt_of_le f21.lt fr27)
  have ne_b8_r27 : b8 ≠ r27 := Nat.ne_of_lt (Nat.lt_of_lt_of_le p20_0.lt fr27)
  have g_r27 : n0 ≤ r27 := Nat.le_trans Z20 fr27
  have f28 : Exa Z T27.heap b1 "com/example/coverbill/coverbill/charge/ChargeRunResult" := f21.keep Kq27
  have f29 : Fld Z T27.heap b1 "com/example/coverbill/coverbill/charge/ChargeRunResult" "complete" "I" (.int c1) := f22.keep Kq27 nin0
  have f30 : Fld Z T27.heap b1 "com/example/coverbill/coverbill/charge/ChargeRunResult" "error" "I" (.int c2) := f23.keep Kq27 nin0
  have f31 : Fld Z T27.heap b1 "com/example/coverbill/coverbill/charge/ChargeRunResult" "chargesCreated" "I" (.int c3) := f24.keep Kq27 nin0
  have f32 : Fld Z T27.heap b1 "com/example/coverbill/coverbill/charge/ChargeRunResult" "endDatesChanged" "I" (.int c4) := f25.keep Kq27 nin0
  have f33 : Fld Z T27.heap b1 "com/example/coverbill/coverbill/charge/ChargeRunResult" "chargesCanceled" "I" (.int c5) := f26.keep Kq27 nin0
  have f34 : Exa Z T27.heap b8 "com/example/coverbill/coverbill/charge/ChargeRunResult" := p20_0.keep Kq27
  have f35 : Fld Z T27.heap b8 "com/example/coverbill/coverbill/charge/ChargeRunResult" "complete" "I" (.int d1) := p20_1.keep Kq27 nin0
  have f36 : Fld Z T27.heap b8 "com/example/coverbill/coverbill/charge/ChargeRunResult" "error" "I" (.int d2) := p20_2.keep Kq27 nin0
  have f37 : Fld Z T27.heap b8 "com/example/coverbill/coverbill/charge/ChargeRunResult" "chargesCreated" "I" (.int d3) := p20_3.keep Kq27 nin0
  have f38 : Fld Z T27.heap b8 "com/example/coverbill/coverbill/charge/ChargeRunResult" "endDatesChanged" "I" (.int d4) := p20_4.keep Kq27 nin0
  have f39 : Fld Z T27.heap b8 "com/example/coverbill/coverbill/charge/ChargeRunResult" "chargesCanceled" "I" (.int d5) := p20_5.keep Kq27 nin0
  have Z27 : n0 ≤ T27.heap.size := Nat.le_trans Z20 Kq27.1
  refine own_tr st27 ?_
  show own_Go p e below K (T27.setTop (mkF m 106 #[.val (.long q1), .second, .val (.long q2), .second, .val (.long q3), .second, .val (.long q4), .second, .val (.long q5), .second, .val (.int c1), .val (.int d1), .val (.int c2), .val (.int d2), .val (.int c3), .val (.int d3), .val (.int c4), .val (.int d4), .val (.int c5), .val (.int d5), .val (.ref b1), .val (.ref b8), .unset] [(.ref r27)]))
  refine own_st (fun t k => XS.astore X27.here hx rfl (hb hby at_106) rfl rfl (l' := #[.val (.long q1), .second, .val (.long q2), .second, .val (.long q3), .second, .val (.long q4), .second, .val (.long q5), .second, .val (.int c1), .val (.int d1), .val (.int c2), .val (.int d2), .val (.int c3), .val (.int d3), .val (.int c4), .val (.int d4), .val (.int c5), .val (.int d5), .val (.ref b1), .val (.ref b8), .val (.ref r27)]) rfl k) ?_
  show own_Go p e below K (T27.setTop (mkF m 108 #[.val (.long q1), .second, .val (.long q2), .second, .val (.long q3), .second, .val (.long q4), .second, .val (.long q5), .second, .val (.int c1), .val (.int d1), .val (.int c2), .val (.int d2), .val (.int c3), .val (.int d3), .val (.int c4), .val (.int d4), .val (.int c5), .val (.int d5), .val (.ref b1), .val (.ref b8), .val (.ref r27)] []))
  refine own_st (fun t k => XS.aload X27.here hx rfl (hb hby at_108) rfl rfl k) ?_
  show own_Go p e below K (T27.setTop (mkF m 110 #[.val (.long q1), .second, .val (.long q2), .second, .val (.long q3), .second, .val (.long q4), .second, .val (.long q5), .second, .val (.int c1), .val (.int d1), .val (.int c2), .val (.int d2), .val (.int c3), .val (.int d3), .val (.int c4), .val (.int d4), .val (.int c5), .val (.int d5), .val (.ref b1), .val (.ref b8), .val (.ref r27)] [(.ref r27)]))
  obtain ⟨cq40, kq40, q40a, q40b, q40c⟩ := isOf hZ rfl p27_0
  obtain ⟨_, _, ⟨T40, L40, k40, n40⟩, -, X40, ⟨Lc40, hQ40, l40, y40, z40⟩, st40⟩ := X27.virtualBack hx (y := (⟨"com/example/coverbill/coverbill/charge/ChargeRunResult", "complete", "()I"⟩ : MethodName)) (z := (⟨"com/example/coverbill/coverbill/charge/ChargeRunResult", "complete", "()I"⟩ : MethodName)) hown (mvT hZ (hw _ (List.mem_of_getElem? (i := 26) rfl))) (mvT hZ (hw _ (List.mem_of_getElem? (i := 27) rfl))) (notFace_of_selects (args := #[]) (mvT hZ (hw _ (List.mem_of_getElem? (i := 29) rfl)))) (mvT hZ (hw _ (List.mem_of_getElem? (i := 29) rfl))) (mvT hZ (hw _ (List.mem_of_getElem? (i := 28) rfl))) (by decide) (backOf (W := 0) (rm4 l Z a0 hw [] r27 ((c1 + d1)) T27.heap n0 Z27 p27_1) hZ (hw _ (List.mem_of_getElem? (i := 30) rfl)) (hw _ (List.mem_of_getElem? (i := 2) rfl)) (by decide) (by decide)) q40a q40c (g := (mkF m 110 #[.val (.long q1), .second, .val (.long q2), .second, .val (.long q3), .second, .val (.long q4), .second, .val (.long q5), .second, .val (.int c1), .val (.int d1), .val (.int c2), .val (.int d2), .val (.int c3), .val (.int d3), .val (.int c4), .val (.int d4), .val (.int c5), .val (.int d5), .val (.ref b1), .val (.ref b8), .val (.ref r27)] [(.ref r27)])) rfl (by rw [hml]; rfl) (Steps.refl _) (argsL := []) (rest := []) (lenOf pd_0_3 rfl) rfl (by show 2 * 0 + _ ≤ _; exact Nat.le_of_eq rfl) (hb hby at_110) (fun _ _ => ⟨rfl, rfl, (by decide : 3 + 0 ≤ _), (by decide : 15 + 0 ≤ _)⟩)
  dsimp only [Pt.U, Pt.locs, Pt.cells, Pt.slots] at X40 l40 y40 z40 st40 hQ40
  subst l40 y40 z40
  obtain ⟨r40, rfl, hr40, N40q, e40⟩ := hQ40
  have N40 := Fr.app N27 N40q
  refine own_tr st40 ?_
  show own_Go p e below K (T40.setTop (mkF m 113 #[.val (.long q1), .second, .val (.long q2), .second, .val (.long q3), .second, .val (.long q4), .second, .val (.long q5), .second, .val (.int c1), .val (.int d1), .val (.int c2), .val (.int d2), .val (.int c3), .val (.int d3), .val (.int c4), .val (.int d4), .val (.int c5), .val (.int d5), .val (.ref b1), .val (.ref b8), .val (.ref r27)] [(.int r40)]))
  refine own_st (fun t k => XS.iload X40.here hx rfl (hb hby at_113) rfl k) ?_
  show own_Go p e below K (T40.setTop (mkF m 115 #[.val (.long q1), .second, .val (.long q2), .second, .val (.long q3), .second, .val (.long q4), .second, .val (.long q5), .second, .val (.int c1), .val (.int d1), .val (.int c2), .val (.int d2), .val (.int c3), .val (.int d3), .val (.int c4), .val (.int d4), .val (.int c5), .val (.int d5), .val (.ref b1), .val (.ref b8), .val (.ref r27)] [(.int c1), (.int r40)]))
  refine own_st (fun t k => XS.iload X40.here hx rfl (hb hby at_115) rfl k) ?_
  show own_Go p e below K (T40.setTop (mkF m 117 #[.val (.long q1), .second, .val (.long q2), .second, .val (.long q3), .second, .val (.long q4), .second, .val (.long q5), .second, .val (.int c1), .val (.int d1), .val (.int c2), .val (.int d2), .val (.int c3), .val (.int d3), .val (.int c4), .val (.int d4), .val (.int c5), .val (.int d5), .val (.ref b1), .val (.ref b8), .val (.ref r27)] [(.int d1), (.int c1), (.int r40)]))
  obtain ⟨_, _, ⟨T41, L41, k41, n41⟩, -, X41, ⟨Lc41, hQ41, l41, y41, z41⟩, st41⟩ := Jvm.LawKit.callS X40 hx (y := (⟨"com/example/coverbill/coverbill/charge/ChargeRunResultPlusPinLaw", "sum", "(II)I"⟩ : MethodName)) hown (mvT hZ (hw _ (List.mem_of_getElem? (i := 31) rfl))) (mvT hZ (hw _ (List.mem_of_getElem? (i := 32) rfl))) (mvT hZ (hw _ (List.mem_of_getElem? (i := 33) rfl))) (mvT hZ (hw _ (List.mem_of_getElem? (i := 34) rfl))) (by decide) (backOf (W := 1) (rm5 l Z a0 hw [] c1 d1 T27.heap n0 Z27) hZ (hw _ (List.mem_of_getElem? (i := 34) rfl)) (hw _ (List.mem_of_getElem? (i := 33) rfl)) (by decide) (by decide)) (g := (mkF m 117 #[.val (.long q1), .second, .val (.long q2), .second, .val (.long q3), .second, .val (.long q4), .second, .val (.long q5), .second, .val (.int c1), .val (.int d1), .val (.int c2), .val (.int d2), .val (.int c3), .val (.int d3), .val (.int c4), .val (.int d4), .val (.int c5), .val (.int d5), .val (.ref b1), .val (.ref b8), .val (.ref r27)] [(.int d1), (.int c1), (.int r40)])) rfl (by rw [hml]; rfl) (argsL := [(.int c1), (.int d1)]) (rest := [(.int r40)]) (lenOf pd_0_4 rfl) rfl (by show 2 * 0 + _ ≤ _; exact Nat.le_of_eq rfl) (hb hby at_117) (fun _ _ => ⟨rfl, e40, (by decide : 3 + 0 ≤ _), (by decide : 15 + 0 ≤ _)⟩)
  dsimp only [Pt.U, Pt.locs, Pt.cells, Pt.slots] at X41 l41 y41 z41 st41 hQ41
  subst l41 y41 z41
  obtain ⟨r41, rfl, hr41, N41q, e41⟩ := hQ41
  have N41 := Fr.app N40 N41q
  refine own_st st41 ?_
  show own_Go p e below K (T41.setTop (mkF m 120 #[.val (.long q1), .second, .val (.long q2), .second, .val (.long q3), .second, .val (.long q4), .second, .val (.long q5), .second, .val (.int c1), .val (.int d1), .val (.int c2), .val (.int d2), .val (.int c3), .val (.int d3), .val (.int c4), .val (.int d4), .val (.int c5), .val (.int d5), .val (.ref b1), .val (.ref b8), .val (.ref r27)] [(.int r41), (.int r40)]))
  refine own_st (fun t k => XS.icmpNo X41.here hx rfl (hb hby at_120) rfl (teq (hr40.trans hr41.symm : r40 = r41)).2 k) ?_
  show own_Go p e below K (T41.setTop (mkF m 123 #[.val (.long q1), .second, .val (.long q2), .second, .val (.long q3), .second, .val (.long q4), .second, .val (.long q5), .second, .val (.int c1), .val (.int d1), .val (.int c2), .val (.int d2), .val (.int c3), .val (.int d3), .val (.int c4), .val (.int d4), .val (.int c5), .val (.int d5), .val (.ref b1), .val (.ref b8), .val (.ref r27)] []))
  refine own_st (fun t k => XS.aload X41.here hx rfl (hb hby at_123) rfl rfl k) ?_
  show own_Go p e below K (T41.setTop (mkF m 125 #[.val (.long q1), .second, .val (.long q2), .second, .val (.long q3), .second, .val (.long q4), .second, .val (.long q5), .second, .val (.int c1), .val (.int d1), .val (.int c2), .val (.int d2), .val (.int c3), .val (.int d3), .val (.int c4), .val (.int d4), .val (.int c5), .val (.int d5), .val (.ref b1), .val (.ref b8), .val (.ref r27)] [(.ref r27)]))
  obtain ⟨cq42, kq42, q42a, q42b, q42c⟩ := isOf hZ e41 p27_0
  obtain ⟨_, _, ⟨T42, L42, k42, n42⟩, -, X42, ⟨Lc42, hQ42, l42, y42, z42⟩, st42⟩ := X41.virtualBack hx (y := (⟨"com/example/coverbill/coverbill/charge/ChargeRunResult", "error", "()I"⟩ : MethodName)) (z := (⟨"com/example/coverbill/coverbill/charge/ChargeRunResult", "error", "()I"⟩ : MethodName)) hown (mvT hZ (hw _ (List.mem_of_getElem? (i := 35) rfl))) (mvT hZ (hw _ (List.mem_of_getElem? (i := 36) rfl))) (notFace_of_selects (args := #[]) (mvT hZ (hw _ (List.mem_of_getElem? (i := 38) rfl)))) (mvT hZ (hw _ (List.mem_of_getElem? (i := 38) rfl))) (mvT hZ (hw _ (List.mem_of_getElem? (i := 37) rfl))) (by decide) (backOf (W := 0) (rm6 l Z a0 hw [] r27 ((c2 + d2)) T27.heap n0 Z27 p27_2) hZ (hw _ (List.mem_of_getElem? (i := 39) rfl)) (hw _ (List.mem_of_getElem? (i := 2) rfl)) (by decide) (by decide)) q42a q42c (g := (mkF m 125 #[.val (.long q1), .second, .val (.long q2), .second, .val (.long q3), .second, .val (.long q4), .second, .val (.long q5), .second, .val (.int c1), .val (.int d1), .val (.int c2), .val (.int d2), .val (.int c3), .val (.int d3), .val (.int c4), .val (.int d4), .val (.int c5), .val (.int d5), .val (.ref b1), .val (.ref b8), .val (.ref r27)] [(.ref r27)])) rfl (by rw [hml]; rfl) (Steps.refl _) (argsL := []) (rest := []) (lenOf pd_0_3 rfl) rfl (by show 2 * 0 + _ ≤ _; exact Nat.le_of_eq rfl) (hb hby at_125) (fun _ _ => ⟨rfl, e41, (by decide : 3 + 0 ≤ _), (by decide : 15 + 0 ≤ _)⟩)
  dsimp only [Pt.U, Pt.locs, Pt.cells, Pt.slots] at X42 l42 y42 z42 st42 hQ42
  subst l42 y42 z42
  obtain ⟨r42, rfl, hr42, N42q, e42⟩ := hQ42
  have N42 := Fr.app N41 N42q
  refine own_tr st42 ?_
  show own_Go p e below K (T42.setTop (mkF m 128 #[.val (.long q1), .second, .val (.long q2), .second, .val (.long q3), .second, .val (.long q4), .second, .val (.long q5), .second, .val (.int c1), .val (.int d1), .val (.int c2), .val (.int d2), .val (.int c3), .val (.int d3), .val (.int c4), .val (.int d4), .val (.int c5), .val (.int d5), .val (.ref b1), .val (.ref b8), .val (.ref r27)] [(.int r42)]))
  refine own_st (fun t k => XS.iload X42.here hx rfl (hb hby at_128) rfl k) ?_
  show own_Go p e below K (T42.setTop (mkF m 130 #[.val (.long q1), .second, .val (.long q2), .second, .val (.long q3), .second, .val (.long q4), .second, .val (.long q5), .second, .val (.int c1), .val (.int d1), .val (.int c2), .val (.int d2), .val (.int c3), .val (.int d3), .val (.int c4), .val (.int d4), .val (.int c5), .val (.int d5), .val (.ref b1), .val (.ref b8), .val (.ref r27)] [(.int c2), (.int r42)]))
  refine own_st (fun t k => XS.iload X42.here hx rfl (hb hby at_130) rfl k) ?_
  show own_Go p e below K (T42.setTop (mkF m 132 #[.val (.long q1), .second, .val (.long q2), .second, .val (.long q3), .second, .val (.long q4), .second, .val (.long q5), .second, .val (.int c1), .val (.int d1), .val (.int c2), .val (.int d2), .val (.int c3), .val (.int d3), .val (.int c4), .val (.int d4), .val (.int c5), .val (.int d5), .val (.ref b1), .val (.ref b8), .val (.ref r27)] [(.int d2), (.int c2), (.int r42)]))
  obtain ⟨_, _, ⟨T43, L43, k43, n43⟩, -, X43, ⟨Lc43, hQ43, l43, y43, z43⟩, st43⟩ := Jvm.LawKit.callS X42 hx (y := (⟨"com/example/coverbill/coverbill/charge/ChargeRunResultPlusPinLaw", "sum", "(II)I"⟩ : MethodName)) hown (mvT hZ (hw _ (List.mem_of_getElem? (i := 31) rfl))) (mvT hZ (hw _ (List.mem_of_getElem? (i := 32) rfl))) (mvT hZ (hw _ (List.mem_of_getElem? (i := 33) rfl))) (mvT hZ (hw _ (List.mem_of_getElem? (i := 34) rfl))) (by decide) (backOf (W := 1) (rm5 l Z a0 hw [] c2 d2 T27.heap n0 Z27) hZ (hw _ (List.mem_of_getElem? (i := 34) rfl)) (hw _ (List.mem_of_getElem? (i := 33) rfl)) (by decide) (by decide)) (g := (mkF m 132 #[.val (.long q1), .second, .val (.long q2), .second, .val (.long q3), .second, .val (.long q4), .second, .val (.long q5), .second, .val (.int c1), .val (.int d1), .val (.int c2), .val (.int d2), .val (.int c3), .val (.int d3), .val (.int c4), .val (.int d4), .val (.int c5), .val (.int d5), .val (.ref b1), .val (.ref b8), .val (.ref r27)] [(.int d2), (.int c2), (.int r42)])) rfl (by rw [hml]; rfl) (argsL := [(.int c2), (.int d2)]) (rest := [(.int r42)]) (lenOf pd_0_4 rfl) rfl (by show 2 * 0 + _ ≤ _; exact Nat.le_of_eq rfl) (hb hby at_132) (fun _ _ => ⟨rfl, e42, (by decide : 3 + 0 ≤ _), (by decide : 15 + 0 ≤ _)⟩)
  dsimp only [Pt.U, Pt.locs, Pt.cells, Pt.slots] at X43 l43 y43 z43 st43 hQ43
  subst l43 y43 z43
  obtain ⟨r43, rfl, hr43, N43q, e43⟩ := hQ43
  have N43 := Fr.app N42 N43q
  refine own_st st43 ?_
  show own_Go p e below K (T43.setTop (mkF m 135 #[.val (.long q1), .second, .val (.long q2), .second, .val (.long q3), .second, .val (.long q4), .second, .val (.long q5), .second, .val (.int c1), .val (.int d1), .val (.int c2), .val (.int d2), .val (.int c3), .val (.int d3), .val (.int c4), .val (.int d4), .val (.int c5), .val (.int d5), .val (.ref b1), .val (.ref b8), .val (.ref r27)] [(.int r43), (.int r42)]))
  refine own_st (fun t k => XS.icmpNo X43.here hx rfl (hb hby at_135) rfl (teq (hr42.trans hr43.symm : r42 = r43)).2 k) ?_
  show own_Go p e below K (T43.setTop (mkF m 138 #[.val (.long q1), .second, .val (.long q2), .second, .val (.long q3), .second, .val (.long q4), .second, .val (.long q5), .second, .val (.int c1), .val (.int d1), .val (.int c2), .val (.int d2), .val (.int c3), .val (.int d3), .val (.int c4), .val (.int d4), .val (.int c5), .val (.int d5), .val (.ref b1), .val (.ref b8), .val (.ref r27)] []))
  refine own_st (fun t k => XS.aload X43.here hx rfl (hb hby at_138) rfl rfl k) ?_
  show own_Go p e below K (T43.setTop (mkF m 140 #[.val (.long q1), .second, .val (.long q2), .second, .val (.long q3), .second, .val (.long q4), .second, .val (.long q5), .second, .val (.int c1), .val (.int d1), .val (.int c2), .val (.int d2), .val (.int c3), .val (.int d3), .val (.int c4), .val (.int d4), .val (.int c5), .val (.int d5), .val (.ref b1), .val (.ref b8), .val (.ref r27)] [(.ref r27)]))
  obtain ⟨cq44, kq44, q44a, q44b, q44c⟩ := isOf hZ e43 p27_0
  obtain ⟨_, _, ⟨T44, L44, k44, n44⟩, -, X44, ⟨Lc44, hQ44, l44, y44, z44⟩, st44⟩ := X43.virtualBack hx (y := (⟨"com/example/coverbill/coverbill/charge/ChargeRunResult", "chargesCreated", "()I"⟩ : MethodName)) (z := (⟨"com/example/coverbill/coverbill/charge/ChargeRunResult", "chargesCreated", "()I"⟩ : MethodName)) hown (mvT hZ (hw _ (List.mem_of_getElem? (i := 40) rfl))) (mvT hZ (hw _ (List.mem_of_getElem? (i := 41) rfl))) (notFace_of_selects (args := #[]) (mvT hZ (hw _ (List.mem_of_getElem? (i := 43) rfl)))) (mvT hZ (hw _ (List.mem_of_getElem? (i := 43) rfl))) (mvT hZ (hw _ (List.mem_of_getElem? (i := 42) rfl))) (by decide) (backOf (W := 0) (rm7 l Z a0 hw [] r27 ((c3 + d3)) T27.heap n0 Z27 p27_3) hZ (hw _ (List.mem_of_getElem? (i := 44) rfl)) (hw _ (List.mem_of_getElem? (i := 2) rfl)) (by decide) (by decide)) q44a q44c (g := (mkF m 140 #[.val (.long q1), .second, .val (.long q2), .second, .val (.long q3), .second, .val (.long q4), .second, .val (.long q5), .second, .val (.int c1), .val (.int d1), .val (.int c2), .val (.int d2), .val (.int c3), .val (.int d3), .val (.int c4), .val (.int d4), .val (.int c5), .val (.int d5), .val (.ref b1), .val (.ref b8), .val (.ref r27)] [(.ref r27)])) rfl (by rw [hml]; rfl) (Steps.refl _) (argsL := []) (rest := []) (lenOf pd_0_3 rfl) rfl (by show 2 * 0 + _ ≤ _; exact Nat.le_of_eq rfl) (hb hby at_140) (fun _ _ => ⟨rfl, e43, (by decide : 3 + 0 ≤ _), (by decide : 15 + 0 ≤ _)⟩)
  dsimp only [Pt.U, Pt.locs, Pt.cells, Pt.slots] at X44 l44 y44 z44 st44 hQ44
  subst l44 y44 z44
  obtain ⟨r44, rfl, hr44, N44q, e44⟩ := hQ44
  have N44 := Fr.app N43 N44q
  refine own_tr st44 ?_
  show own_Go p e below K (T44.setTop (mkF m 143 #[.val (.long q1), .second, .val (.long q2), .second, .val (.long q3), .second, .val (.long q4), .second, .val (.long q5), .second, .val (.int c1), .val (.int d1), .val (.int c2), .val (.int d2), .val (.int c3), .val (.int d3), .val (.int c4), .val (.int d4), .val (.int c5), .val (.int d5), .val (.ref b1), .val (.ref b8), .val (.ref r27)] [(.int r44)]))
  refine own_st (fun t k => XS.iload X44.here hx rfl (hb hby at_143) rfl k) ?_
  show own_Go p e below K (T44.setTop (mkF m 145 #[.val (.long q1), .second, .val (.long q2), .second, .val (.long q3), .second, .val (.long q4), .second, .val (.long q5), .second, .val (.int c1), .val (.int d1), .val (.int c2), .val (.int d2), .val (.int c3), .val (.int d3), .val (.int c4), .val (.int d4), .val (.int c5), .val (.int d5), .val (.ref b1), .val (.ref b8), .val (.ref r27)] [(.int c3), (.int r44)]))
  refine own_st (fun t k => XS.iload X44.here hx rfl (hb hby at_145) rfl k) ?_
  show own_Go p e below K (T44.setTop (mkF m 147 #[.val (.long q1), .second, .val (.long q2), .second, .val (.long q3), .second, .val (.long q4), .second, .val (.long q5), .second, .val (.int c1), .val (.int d1), .val (.int c2), .val (.int d2), .val (.int c3), .val (.int d3), .val (.int c4), .val (.int d4), .val (.int c5), .val (.int d5), .val (.ref b1), .val (.ref b8), .val (.ref r27)] [(.int d3), (.int c3), (.int r44)]))
  obtain ⟨_, _, ⟨T45, L45, k45, n45⟩, -, X45, ⟨Lc45, hQ45, l45, y45, z45⟩, st45⟩ := Jvm.LawKit.callS X44 hx (y := (⟨"com/example/coverbill/coverbill/charge/ChargeRunResultPlusPinLaw", "sum", "(II)I"⟩ : MethodName)) hown (mvT hZ (hw _ (List.mem_of_getElem? (i := 31) rfl))) (mvT hZ (hw _ (List.mem_of_getElem? (i := 32) rfl))) (mvT hZ (hw _ (List.mem_of_getElem? (i := 33) rfl))) (mvT hZ (hw _ (List.mem_of_getElem? (i := 34) rfl))) (by decide) (backOf (W := 1) (rm5 l Z a0 hw [] c3 d3 T27.heap n0 Z27) hZ (hw _ (List.mem_of_getElem? (i := 34) rfl)) (hw _ (List.mem_of_getElem? (i := 33) rfl)) (by decide) (by decide)) (g := (mkF m 147 #[.val (.long q1), .second, .val (.long q2), .second, .val (.long q3), .second, .val (.long q4), .second, .val (.long q5), .second, .val (.int c1), .val (.int d1), .val (.int c2), .val (.int d2), .val (.int c3), .val (.int d3), .val (.int c4), .val (.int d4), .val (.int c5), .val (.int d5), .val (.ref b1), .val (.ref b8), .val (.ref r27)] [(.int d3), (.int c3), (.int r44)])) rfl (by rw [hml]; rfl) (argsL := [(.int c3), (.int d3)]) (rest := [(.int r44)]) (lenOf pd_0_4 rfl) rfl (by show 2 * 0 + _ ≤ _; exact Nat.le_of_eq rfl) (hb hby at_147) (fun _ _ => ⟨rfl, e44, (by decide : 3 + 0 ≤ _), (by decide : 15 + 0 ≤ _)⟩)
  dsimp only [Pt.U, Pt.locs, Pt.cells, Pt.slots] at X45 l45 y45 z45 st45 hQ45
  subst l45 y45 z45
  obtain ⟨r45, rfl, hr45, N45q, e45⟩ := hQ45
  have N45 := Fr.app N44 N45q
  refine own_st st45 ?_
  show own_Go p e below K (T45.setTop (mkF m 150 #[.val (.long q1), .second, .val (.long q2), .second, .val (.long q3), .second, .val (.long q4), .second, .val (.long q5), .second, .val (.int c1), .val (.int d1), .val (.int c2), .val (.int d2), .val (.int c3), .val (.int d3), .val (.int c4), .val (.int d4), .val (.int c5), .val (.int d5), .val (.ref b1), .val (.ref b8), .val (.ref r27)] [(.int r45), (.int r44)]))
  refine own_st (fun t k => XS.icmpNo X45.here hx rfl (hb hby at_150) rfl (teq (hr44.trans hr45.symm : r44 = r45)).2 k) ?_
  show own_Go p e below K (T45.setTop (mkF m 153 #[.val (.long q1), .second, .val (.long q2), .second, .val (.long q3), .second, .val (.long q4), .second, .val (.long q5), .second, .val (.int c1), .val (.int d1), .val (.int c2), .val (.int d2), .val (.int c3), .val (.int d3), .val (.int c4), .val (.int d4), .val (.int c5), .val (.int d5), .val (.ref b1), .val (.ref b8), .val (.ref r27)] []))
  refine own_st (fun t k => XS.aload X45.here hx rfl (hb hby at_153) rfl rfl k) ?_
  show own_Go p e below K (T45.setTop (mkF m 155 #[.val (.long q1), .second, .val (.long q2), .second, .val (.long q3), .second, .val (.long q4), .second, .val (.long q5), .second, .val (.int c1), .val (.int d1), .val (.int c2), .val (.int d2), .val (.int c3), .val (.int d3), .val (.int c4), .val (.int d4), .val (.int c5), .val (.int d5), .val (.ref b1), .val (.ref b8), .val (.ref r27)] [(.ref r27)]))
  obtain ⟨cq46, kq46, q46a, q46b, q46c⟩ := isOf hZ e45 p27_0
  obtain ⟨_, _, ⟨T46, L46, k46, n46⟩, -, X46, ⟨Lc46, hQ46, l46, y46, z46⟩, st46⟩ := X45.virtualBack hx (y := (⟨"com/example/coverbill/coverbill/charge/ChargeRunResult", "endDatesChanged", "()I"⟩ : MethodName)) (z := (⟨"com/example/coverbill/coverbill/charge/ChargeRunResult", "endDatesChanged", "()I"⟩ : MethodName)) hown (mvT hZ (hw _ (List.mem_of_getElem? (i := 45) rfl))) (mvT hZ (hw _ (List.mem_of_getElem? (i := 46) rfl))) (notFace_of_selects (args := #[]) (mvT hZ (hw _ (List.mem_of_getElem? (i := 48) rfl)))) (mvT hZ (hw _ (List.mem_of_getElem? (i := 48) rfl))) (mvT hZ (hw _ (List.mem_of_getElem? (i := 47) rfl))) (by decide) (backOf (W := 0) (rm8 l Z a0 hw [] r27 ((c4 + d4)) T27.heap n0 Z27 p27_4) hZ (hw _ (List.mem_of_getElem? (i := 49) rfl)) (hw _ (List.mem_of_getElem? (i := 2) rfl)) (by decide) (by decide)) q46a q46c (g := (mkF m 155 #[.val (.long q1), .second, .val (.long q2), .second, .val (.long q3), .second, .val (.long q4), .second, .val (.long q5), .second, .val (.int c1), .val (.int d1), .val (.int c2), .val (.int d2), .val (.int c3), .val (.int d3), .val (.int c4), .val (.int d4), .val (.int c5), .val (.int d5), .val (.ref b1), .val (.ref b8), .val (.ref r27)] [(.ref r27)])) rfl (by rw [hml]; rfl) (Steps.refl _) (argsL := []) (rest := []) (lenOf pd_0_3 rfl) rfl (by show 2 * 0 + _ ≤ _; exact Nat.le_of_eq rfl) (hb hby at_155) (fun _ _ => ⟨rfl, e45, (by decide : 3 + 0 ≤ _), (by decide : 15 + 0 ≤ _)⟩)
  dsimp only [Pt.U, Pt.locs, Pt.cells, Pt.slots] at X46 l46 y46 z46 st46 hQ46
  subst l46 y46 z46
  obtain ⟨r46, rfl, hr46, N46q, e46⟩ := hQ46
  have N46 := Fr.app N45 N46q
  refine own_tr st46 ?_
  show own_Go p e below K (T46.setTop (mkF m 158 #[.val (.long q1), .second, .val (.long q2), .second, .val (.long q3), .second, .val (.long q4), .second, .val (.long q5), .second, .val (.int c1), .val (.int d1), .val (.int c2), .val (.int d2), .val (.int c3), .val (.int d3), .val (.int c4), .val (.int d4), .val (.int c5), .val (.int d5), .val (.ref b1), .val (.ref b8), .val (.ref r27)] [(.int r46)]))
  refine own_st (fun t k => XS.iload X46.here hx rfl (hb hby at_158) rfl k) ?_
  show own_Go p e below K (T46.setTop (mkF m 160 #[.val (.long q1), .second, .val (.long q2), .second, .val (.long q3), .second, .val (.long q4), .second, .val (.long q5), .second, .val (.int c1), .val (.int d1), .val (.int c2), .val (.int d2), .val (.int c3), .val (.int d3), .val (.int c4), .val (.int d4), .val (.int c5), .val (.int d5), .val (.ref b1), .val (.ref b8), .val (.ref r27)] [(.int c4), (.int r46)]))
  refine own_st (fun t k => XS.iload X46.here hx rfl (hb hby at_160) rfl k) ?_
  show own_Go p e below K (T46.setTop (mkF m 162 #[.val (.long q1), .second, .val (.long q2), .second, .val (.long q3), .second, .val (.long q4), .second, .val (.long q5), .second, .val (.int c1), .val (.int d1), .val (.int c2), .val (.int d2), .val (.int c3), .val (.int d3), .val (.int c4), .val (.int d4), .val (.int c5), .val (.int d5), .val (.ref b1), .val (.ref b8), .val (.ref r27)] [(.int d4), (.int c4), (.int r46)]))
  obtain ⟨_, _, ⟨T47, L47, k47, n47⟩, -, X47, ⟨Lc47, hQ47, l47, y47, z47⟩, st47⟩ := Jvm.LawKit.callS X46 hx (y := (⟨"com/example/coverbill/coverbill/charge/ChargeRunResultPlusPinLaw", "sum", "(II)I"⟩ : MethodName)) hown (mvT hZ (hw _ (List.mem_of_getElem? (i := 31) rfl))) (mvT hZ (hw _ (List.mem_of_getElem? (i := 32) rfl))) (mvT hZ (hw _ (List.mem_of_getElem? (i := 33) rfl))) (mvT hZ (hw _ (List.mem_of_getElem? (i := 34) rfl))) (by decide) (backOf (W := 1) (rm5 l Z a0 hw [] c4 d4 T27.heap n0 Z27) hZ (hw _ (List.mem_of_getElem? (i := 34) rfl)) (hw _ (List.mem_of_getElem? (i := 33) rfl)) (by decide) (by decide)) (g := (mkF m 162 #[.val (.long q1), .second, .val (.long q2), .second, .val (.long q3), .second, .val (.long q4), .second, .val (.long q5), .second, .val (.int c1), .val (.int d1), .val (.int c2), .val (.int d2), .val (.int c3), .val (.int d3), .val (.int c4), .val (.int d4), .val (.int c5), .val (.int d5), .val (.ref b1), .val (.ref b8), .val (.ref r27)] [(.int d4), (.int c4), (.int r46)])) rfl (by rw [hml]; rfl) (argsL := [(.int c4), (.int d4)]) (rest := [(.int r46)]) (lenOf pd_0_4 rfl) rfl (by show 2 * 0 + _ ≤ _; exact Nat.le_of_eq rfl) (hb hby at_162) (fun _ _ => ⟨rfl, e46, (by decide : 3 + 0 ≤ _), (by decide : 15 + 0 ≤ _)⟩)
  dsimp only [Pt.U, Pt.locs, Pt.cells, Pt.slots] at X47 l47 y47 z47 st47 hQ47
  subst l47 y47 z47
  obtain ⟨r47, rfl, hr47, N47q, e47⟩ := hQ47
  have N47 := Fr.app N46 N47q
  refine own_st st47 ?_
  show own_Go p e below K (T47.setTop (mkF m 165 #[.val (.long q1), .second, .val (.long q2), .second, .val (.long q3), .second, .val (.long q4), .second, .val (.long q5), .second, .val (.int c1), .val (.int d1), .val (.int c2), .val (.int d2), .val (.int c3), .val (.int d3), .val (.int c4), .val (.int d4), .val (.int c5), .val (.int d5), .val (.ref b1), .val (.ref b8), .val (.ref r27)] [(.int r47), (.int r46)]))
  refine own_st (fun t k => XS.icmpNo X47.here hx rfl (hb hby at_165) rfl (teq (hr46.trans hr47.symm : r46 = r47)).2 k) ?_
  show own_Go p e below K (T47.setTop (mkF m 168 #[.val (.long q1), .second, .val (.long q2), .second, .val (.long q3), .second, .val (.long q4), .second, .val (.long q5), .second, .val (.int c1), .val (.int d1), .val (.int c2), .val (.int d2), .val (.int c3), .val (.int d3), .val (.int c4), .val (.int d4), .val (.int c5), .val (.int d5), .val (.ref b1), .val (.ref b8), .val (.ref r27)] []))
  refine own_st (fun t k => XS.aload X47.here hx rfl (hb hby at_168) rfl rfl k) ?_
  show own_Go p e below K (T47.setTop (mkF m 170 #[.val (.long q1), .second, .val (.long q2), .second, .val (.long q3), .second, .val (.long q4), .second, .val (.long q5), .second, .val (.int c1), .val (.int d1), .val (.int c2), .val (.int d2), .val (.int c3), .val (.int d3), .val (.int c4), .val (.int d4), .val (.int c5), .val (.int d5), .val (.ref b1), .val (.ref b8), .val (.ref r27)] [(.ref r27)]))
  obtain ⟨cq48, kq48, q48a, q48b, q48c⟩ := isOf hZ e47 p27_0
  obtain ⟨_, _, ⟨T48, L48, k48, n48⟩, -, X48, ⟨Lc48, hQ48, l48, y48, z48⟩, st48⟩ := X47.virtualBack hx (y := (⟨"com/example/coverbill/coverbill/charge/ChargeRunResult", "chargesCanceled", "()I"⟩ : MethodName)) (z := (⟨"com/example/coverbill/coverbill/charge/ChargeRunResult", "chargesCanceled", "()I"⟩ : MethodName)) hown (mvT hZ (hw _ (List.mem_of_getElem? (i := 50) rfl))) (mvT hZ (hw _ (List.mem_of_getElem? (i := 51) rfl))) (notFace_of_selects (args := #[]) (mvT hZ (hw _ (List.mem_of_getElem? (i := 53) rfl)))) (mvT hZ (hw _ (List.mem_of_getElem? (i := 53) rfl))) (mvT hZ (hw _ (List.mem_of_getElem? (i := 52) rfl))) (by decide) (backOf (W := 0) (rm9 l Z a0 hw [] r27 ((c5 + d5)) T27.heap n0 Z27 p27_5) hZ (hw _ (List.mem_of_getElem? (i := 54) rfl)) (hw _ (List.mem_of_getElem? (i := 2) rfl)) (by decide) (by decide)) q48a q48c (g := (mkF m 170 #[.val (.long q1), .second, .val (.long q2), .second, .val (.long q3), .second, .val (.long q4), .second, .val (.long q5), .second, .val (.int c1), .val (.int d1), .val (.int c2), .val (.int d2), .val (.int c3), .val (.int d3), .val (.int c4), .val (.int d4), .val (.int c5), .val (.int d5), .val (.ref b1), .val (.ref b8), .val (.ref r27)] [(.ref r27)])) rfl (by rw [hml]; rfl) (Steps.refl _) (argsL := []) (rest := []) (lenOf pd_0_3 rfl) rfl (by show 2 * 0 + _ ≤ _; exact Nat.le_of_eq rfl) (hb hby at_170) (fun _ _ => ⟨rfl, e47, (by decide : 3 + 0 ≤ _), (by decide : 15 + 0 ≤ _)⟩)
  dsimp only [Pt.U, Pt.locs, Pt.cells, Pt.slots] at X48 l48 y48 z48 st48 hQ48
  subst l48 y48 z48
  obtain ⟨r48, rfl, hr48, N48q, e48⟩ := hQ48
  have N48 := Fr.app N47 N48q
  refine own_tr st48 ?_
  show own_Go p e below K (T48.setTop (mkF m 173 #[.val (.long q1), .second, .val (.long q2), .second, .val (.long q3), .second, .val (.long q4), .second, .val (.long q5), .second, .val (.int c1), .val (.int d1), .val (.int c2), .val (.int d2), .val (.int c3), .val (.int d3), .val (.int c4), .val (.int d4), .val (.int c5), .val (.int d5), .val (.ref b1), .val (.ref b8), .val (.ref r27)] [(.int r48)]))
  refine own_st (fun t k => XS.iload X48.here hx rfl (hb hby at_173) rfl k) ?_
  show own_Go p e below K (T48.setTop (mkF m 175 #[.val (.long q1), .second, .val (.long q2), .second, .val (.long q3), .second, .val (.long q4), .second, .val (.long q5), .second, .val (.int c1), .val (.int d1), .val (.int c2), .val (.int d2), .val (.int c3), .val (.int d3), .val (.int c4), .val (.int d4), .val (.int c5), .val (.int d5), .val (.ref b1), .val (.ref b8), .val (.ref r27)] [(.int c5), (.int r48)]))
  refine own_st (fun t k => XS.iload X48.here hx rfl (hb hby at_175) rfl k) ?_
  show own_Go p e below K (T48.setTop (mkF m 177 #[.val (.long q1), .second, .val (.long q2), .second, .val (.long q3), .second, .val (.long q4), .second, .val (.long q5), .second, .val (.int c1), .val (.int d1), .val (.int c2), .val (.int d2), .val (.int c3), .val (.int d3), .val (.int c4), .val (.int d4), .val (.int c5), .val (.int d5), .val (.ref b1), .val (.ref b8), .val (.ref r27)] [(.int d5), (.int c5), (.int r48)]))
  obtain ⟨_, _, ⟨T49, L49, k49, n49⟩, -, X49, ⟨Lc49, hQ49, l49, y49, z49⟩, st49⟩ := Jvm.LawKit.callS X48 hx (y := (⟨"com/example/coverbill/coverbill/charge/ChargeRunResultPlusPinLaw", "sum", "(II)I"⟩ : MethodName)) hown (mvT hZ (hw _ (List.mem_of_getElem? (i := 31) rfl))) (mvT hZ (hw _ (List.mem_of_getElem? (i := 32) rfl))) (mvT hZ (hw _ (List.mem_of_getElem? (i := 33) rfl))) (mvT hZ (hw _ (List.mem_of_getElem? (i := 34) rfl))) (by decide) (backOf (W := 1) (rm5 l Z a0 hw [] c5 d5 T27.heap n0 Z27) hZ (hw _ (List.mem_of_getElem? (i := 34) rfl)) (hw _ (List.mem_of_getElem? (i := 33) rfl)) (by decide) (by decide)) (g := (mkF m 177 #[.val (.long q1), .second, .val (.long q2), .second, .val (.long q3), .second, .val (.long q4), .second, .val (.long q5), .second, .val (.int c1), .val (.int d1), .val (.int c2), .val (.int d2), .val (.int c3), .val (.int d3), .val (.int c4), .val (.int d4), .val (.int c5), .val (.int d5), .val (.ref b1), .val (.ref b8), .val (.ref r27)] [(.int d5), (.int c5), (.int r48)])) rfl (by rw [hml]; rfl) (argsL := [(.int c5), (.int d5)]) (rest := [(.int r48)]) (lenOf pd_0_4 rfl) rfl (by show 2 * 0 + _ ≤ _; exact Nat.le_of_eq rfl) (hb hby at_177) (fun _ _ => ⟨rfl, e48, (by decide : 3 + 0 ≤ _), (by decide : 15 + 0 ≤ _)⟩)
  dsimp only [Pt.U, Pt.locs, Pt.cells, Pt.slots] at X49 l49 y49 z49 st49 hQ49
  subst l49 y49 z49
  obtain ⟨r49, rfl, hr49, N49q, e49⟩ := hQ49
  have N49 := Fr.app N48 N49q
  refine own_st st49 ?_
  show own_Go p e below K (T49.setTop (mkF m 180 #[.val (.long q1), .second, .val (.long q2), .second, .val (.long q3), .second, .val (.long q4), .second, .val (.long q5), .second, .val (.int c1), .val (.int d1), .val (.int c2), .val (.int d2), .val (.int c3), .val (.int d3), .val (.int c4), .val (.int d4), .val (.int c5), .val (.int d5), .val (.ref b1), .val (.ref b8), .val (.ref r27)] [(.int r49), (.int r48)]))
  refine own_st (fun t k => XS.icmpNo X49.here hx rfl (hb hby at_180) rfl (teq (hr48.trans hr49.symm : r48 = r49)).2 k) ?_
  show own_Go p e below K (T49.setTop (mkF m 183 #[.val (.long q1), .second, .val (.long q2), .second, .val (.long q3), .second, .val (.long q4), .second, .val (.long q5), .second, .val (.int c1), .val (.int d1), .val (.int c2), .val (.int d2), .val (.int c3), .val (.int d3), .val (.int c4), .val (.int d4), .val (.int c5), .val (.int d5), .val (.ref b1), .val (.ref b8), .val (.ref r27)] []))
  refine own_st (fun t k => XS.iconst X49.here hx rfl (hb hby at_183) k) ?_
  show own_Go p e below K (T49.setTop (mkF m 184 #[.val (.long q1), .second, .val (.long q2), .second, .val (.long q3), .second, .val (.long q4), .second, .val (.long q5), .second, .val (.int c1), .val (.int d1), .val (.int c2), .val (.int d2), .val (.int c3), .val (.int d3), .val (.int c4), .val (.int d4), .val (.int c5), .val (.int d5), .val (.ref b1), .val (.ref b8), .val (.ref r27)] [(.int (1 : Int32))]))
  refine own_st (fun t k => XS.goto X49.here hx rfl (pc0 := 184) (pc' := 188) rfl (hb hby at_184) (by decide) (by decide) k) ?_
  show own_Go p e below K (T49.setTop (mkF m 188 #[.val (.long q1), .second, .val (.long q2), .second, .val (.long q3), .second, .val (.long q4), .second, .val (.long q5), .second, .val (.int c1), .val (.int d1), .val (.int c2), .val (.int d2), .val (.int c3), .val (.int d3), .val (.int c4), .val (.int d4), .val (.int c5), .val (.int d5), .val (.ref b1), .val (.ref b8), .val (.ref r27)] [(.int (1 : Int32))]))
  obtain ⟨fs, hr, hrun, hended, hW, hsame⟩ := X49.leave (v := some (.int (nar .boolean (1 : Int32)))) (fun h => by rw [Bd.returns] at h; cases h)
  refine ⟨_, retN X49 hx (t := .boolean) Bd.returns (by simp) (hb hby at_188) hr, fin _ _ _ hrun hended ?_ ⟨⟨_, rfl⟩, hW, hsame.mono (by decide) (by decide)⟩⟩
  show Q0 Z q1 q2 q3 q4 q5 h0 n0 _ T49.heap _
  rw [e49]
  exact ⟨rfl, N49⟩
set_option maxRecDepth 65536 in
set_option maxHeartbeats 40000000 in
theorem comes_1 {Post : Tables → Env → Array Value → State → Outcome → State → Prop} (hpost : ∀ tb e args s v u, (limb_1_1.after args s (.returned v) u = true ∧ limb_1_2.after args s (.returned v) u = true ∧ True) → FrameEnd s (.returned v) u (Jvm.fieldLocs frame_1_writes args s ++ Jvm.arrayLocs frame_1_arrays args s ++ Jvm.staticLocs frame_1_statics s) 16 128 → Post tb e args s (.returned v) u) :
    ArmFor flags0 classFile x code maxLocals ret World_1 tables_1 room_1 Calls_1 rest_1 Pre_1 Post := by
  intro l hfl _ _ p e ha hc hk s m args below hf hA hF happ hP
  obtain ⟨hcalls, hrest, hpre⟩ := hP
  obtain ⟨-, -, -, hnamed, -, -, -, hat⟩ := (Spec.applies_iff hf).mp happ
  obtain ⟨hg, hn⟩ := and_e (Cond.before_iff.mp (show (Jvm.Cond.and given_1 narrow_1).before args s = true from hpre))
  obtain ⟨g1, g2⟩ := and_e hg
  obtain ⟨g3, g4⟩ := and_e g2
  obtain ⟨g5, g6⟩ := and_e g4
  obtain ⟨g7, g8⟩ := and_e g6
  obtain ⟨g9, g10⟩ := and_e g8
  obtain ⟨w0, w1, w2, w3, w4, rfl⟩ : ∃ w0 w1 w2 w3 w4 : Value, args = #[w0, w1, w2, w3, w4] := by
    have hs : args.size = 5 := by simpa [Cond.value, given_1] using g1
    obtain ⟨L⟩ := args
    match L, hs with
    | [w0, w1, w2, w3, w4], _ => exact ⟨w0, w1, w2, w3, w4, rfl⟩
  have hw := fun d (hd : d ∈ tables_1) => atoms_spec (ws := Jvm.Cond.code x code maxLocals ret :: tables_1) hat d (List.mem_cons_of_mem _ hd)
  have hfit : Fit s := fun {y c} hc i hi => by
    obtain ⟨ha, rfl⟩ := Array.getElem?_eq_some_iff.mp hc
    have q := List.all_eq_true.mp ((Array.all_eq_true_iff_forall_mem.mp hF) _ (Array.getElem_mem ha)) i (List.mem_range.mpr hi)
    simpa [Array.getElem?_eq_getElem hi] using q
  obtain ⟨i0, ei0⟩ := isL_v g3
  obtain rfl : w0 = (.long i0) := Option.some.inj ei0
  obtain ⟨i1, ei1⟩ := isL_v g5
  obtain rfl : w1 = (.long i1) := Option.some.inj ei1
  obtain ⟨i2, ei2⟩ := isL_v g7
  obtain rfl : w2 = (.long i2) := Option.some.inj ei2
  obtain ⟨i3, ei3⟩ := isL_v g9
  obtain rfl : w3 = (.long i3) := Option.some.inj ei3
  obtain ⟨i4, ei4⟩ := isL_v g10
  obtain rfl : w4 = (.long i4) := Option.some.inj ei4
  obtain ⟨n, o, h1, h2, h3, _, L, rfl, ⟨rfl, N⟩, hq⟩ := rm0 l s _ hw tables_1 i0 i1 i2 i3 i4 s.heap s.heap.size (Nat.le_refl _) p e ha hc hk s m _ below hf ((Spec.applies_iff_loose hf).mp happ).1 ⟨rfl, State.Warmed39.refl s, rfl⟩ trivial
  refine ⟨n, _, h1, h2, h3, hpost _ _ _ _ _ _ ⟨Cond.after_iff.mpr rfl, Cond.after_iff.mpr (eq_i res_at (Term.int_eval (1)) rfl), trivial⟩ ⟨hq.1, hq.2.1, (hq.2.2.sift fun y hy => Or.inr (N y hy)).mono (by decide) (by decide)⟩⟩
theorem main_1_1 : Claimed_1_1 := comes_1 fun _ _ _ _ _ _ h hF => ⟨h.1, hF⟩
theorem main_1_2 : Claimed_1_2 := comes_1 fun _ _ _ _ _ _ h hF => ⟨h.2.1, hF⟩
end Jvm.Pilot.@@N@@
namespace Jvm.Pilot.@@N@@
open Jvm Jvm.ClassFile Sem Op Lib Jvm.Free Jvm.Stand Jvm.Pilot.@@N@@.Jvm.D
/-! MADE BY PROGRAM (witnessworld.py) out of the Statement's table words and the real class files: 9 classes; the members and pool entries that the words name. The judged class is class 1, her method 1. -/
namespace start1
open Jvm.ClassFile
def u (s : String) : CpInfo := .utf8 (stringToUtf16 s)
/-- a pool by its gaps: so many unusable entries, then the entry; so many at the end -/
def gap : Nat → List CpInfo → List CpInfo
  | 0, r => r
  | n + 1, r => .unusable :: gap n r
def poolList (es : List (Nat × CpInfo)) (last : Nat) : List CpInfo := es.foldr (fun e r => gap e.1 (e.2 :: r)) (gap last [])
def pool (es : List (Nat × CpInfo)) (last : Nat) : Array CpInfo := ⟨poolList es last⟩
def fileOf (pool : Array CpInfo) (this : Nat) (attrs : Array Attribute := #[]) (ms : Array MethodInfo := #[]) (fl : Nat := 33) (sup : Nat := 0) (ifs : Array Nat := #[]) (fds : Array FieldInfo := #[]) : ClassFile where
  minorVersion := 0
  majorVersion := 65
  constantPool := pool
  accessFlags := fl
  thisClass := this
  superClass := sup
  interfaces := ifs
  fields := fds
  methods := ms
  attributes := attrs
def plain (name : String) (sup : Option ClassId) : Class where
  name := name
  kind := .ordinary
  loader := none
  accessFlags := 33
  super := sup
  interfaces := #[]
  cf := none
  fields := #[]
  methods := #[]
  instanceTypes := #[]
  staticTypes := #[]
  resolved := #[]
  callSites := []
  init := .initialized
  statics := none
  mirror := none

def pool0 : Array CpInfo := pool [(5, u "<init>"), (0, u "()V"), (1, .class_ 10), (1, u "java/lang/Object")] 113

def k0c0 : Code := { maxStack := 0, maxLocals := 1, code := object_method_1_code, exceptionTable := #[], attributes := #[] }
def k0m0 : Method := { name := "<init>", desc := "()V", sig := { parameters := [], returnType := none }, accessFlags := 1, code := some k0c0 }
/-- java/lang/Object -/
def k0 : Class := { plain "java/lang/Object" none with
  accessFlags := 33
  interfaces := #[]
  cf := some (fileOf pool0 8 #[] #[{ accessFlags := 1, nameIndex := 5, descriptorIndex := 6, attributes := #[] }] 33 0 #[] #[])
  fields := #[]
  methods := #[k0m0]
  instanceTypes := #[]
  staticTypes := #[]
  resolved := Array.replicate 124 none
  statics := none }

def pool1 : Array CpInfo := pool [(2, .class_ 4), (1, u "java/lang/Object"), (0, u "<init>"), (0, u "()V"), (0, .class_ 8), (0, u "com/example/coverbill/coverbill/charge/ChargeRunResult"), (0, .methodref 7 10), (0, .nameAndType 5 11), (0, u "(IIIII)V"), (0, .methodref 7 13), (0, .nameAndType 14 15), (0, u "plus"), (0, u "(Lcom/example/coverbill/coverbill/charge/ChargeRunResult;)Lcom/example/coverbill/coverbill/charge/ChargeRunResult;"), (0, .methodref 7 17), (0, .nameAndType 18 19), (0, u "complete"), (0, u "()I"), (0, .methodref 21 22), (0, .class_ 23), (0, .nameAndType 24 25), (0, u "com/example/coverbill/coverbill/charge/ChargeRunResultPlusPinLaw"), (0, u "sum"), (0, u "(II)I"), (0, .methodref 7 27), (0, .nameAndType 28 19), (0, u "error"), (0, .methodref 7 30), (0, .nameAndType 31 19), (0, u "chargesCreated"), (0, .methodref 7 33), (0, .nameAndType 34 19), (0, u "endDatesChanged"), (0, .methodref 7 36), (0, .nameAndType 37 19), (0, u "chargesCanceled"), (2, u "law"), (0, u "(JJJJJ)Z")] 3

def k1m0 : Method := { name := "<init>", desc := "()V", sig := { parameters := [], returnType := none }, accessFlags := 1, code := none }
def k1c1 : Code := { maxStack := 7, maxLocals := 23, code := code, exceptionTable := #[], attributes := #[] }
def k1m1 : Method := { name := "law", desc := "(JJJJJ)Z", sig := { parameters := [.long, .long, .long, .long, .long], returnType := some .boolean }, accessFlags := 9, code := some k1c1 }
def k1c2 : Code := { maxStack := 4, maxLocals := 2, code := method_3_code, exceptionTable := #[], attributes := #[] }
def k1m2 : Method := { name := "sum", desc := "(II)I", sig := { parameters := [.int, .int], returnType := some .int }, accessFlags := 10, code := some k1c2 }
/-- com/example/coverbill/coverbill/charge/ChargeRunResultPlusPinLaw -/
def k1 : Class := { plain "com/example/coverbill/coverbill/charge/ChargeRunResultPlusPinLaw" (some 0) with
  accessFlags := 49
  interfaces := #[]
  cf := some (fileOf pool1 21 #[] #[{ accessFlags := 1, nameIndex := 5, descriptorIndex := 6, attributes := #[] }, { accessFlags := 9, nameIndex := 40, descriptorIndex := 41, attributes := #[] }, { accessFlags := 10, nameIndex := 24, descriptorIndex := 25, attributes := #[] }] 49 2 #[] #[])
  fields := #[]
  methods := #[k1m0, k1m1, k1m2]
  instanceTypes := #[]
  staticTypes := #[]
  resolved := Array.replicate 45 none
  statics := none }

def pool2 : Array CpInfo := pool [(1, .methodref 2 3), (0, .class_ 4), (0, .nameAndType 5 6), (0, u "java/lang/Object"), (0, u "<init>"), (0, u "()V"), (0, .fieldref 8 9), (0, .class_ 10), (0, .nameAndType 11 12), (0, u "com/example/coverbill/coverbill/charge/ChargeRunResult"), (0, u "complete"), (0, u "I"), (0, .fieldref 8 14), (0, .nameAndType 15 12), (0, u "error"), (0, .fieldref 8 17), (0, .nameAndType 18 12), (0, u "chargesCreated"), (0, .fieldref 8 20), (0, .nameAndType 21 12), (0, u "endDatesChanged"), (0, .fieldref 8 23), (0, .nameAndType 24 12), (0, u "chargesCanceled"), (0, .methodref 8 26), (0, .nameAndType 5 27), (0, u "(IIIII)V"), (2, u "NOTHING"), (0, u "Lcom/example/coverbill/coverbill/charge/ChargeRunResult;"), (2, u "plus"), (0, u "(Lcom/example/coverbill/coverbill/charge/ChargeRunResult;)Lcom/example/coverbill/coverbill/charge/ChargeRunResult;"), (0, u "()I")] 3

def k2c0 : Code := { maxStack := 2, maxLocals := 6, code := prog_37_method_1_code, exceptionTable := #[], attributes := #[] }
def k2m0 : Method := { name := "<init>", desc := "(IIIII)V", sig := { parameters := [.int, .int, .int, .int, .int], returnType := none }, accessFlags := 0, code := some k2c0 }
def k2c1 : Code := { maxStack := 8, maxLocals := 2, code := prog_37_method_2_code, exceptionTable := #[], attributes := #[] }
def k2m1 : Method := { name := "plus", desc := "(Lcom/example/coverbill/coverbill/charge/ChargeRunResult;)Lcom/example/coverbill/coverbill/charge/ChargeRunResult;", sig := { parameters := [(.object "com/example/coverbill/coverbill/charge/ChargeRunResult")], returnType := some (.object "com/example/coverbill/coverbill/charge/ChargeRunResult") }, accessFlags := 0, code := some k2c1 }
def k2c2 : Code := { maxStack := 1, maxLocals := 1, code := prog_37_method_3_code, exceptionTable := #[], attributes := #[] }
def k2m2 : Method := { name := "complete", desc := "()I", sig := { parameters := [], returnType := some .int }, accessFlags := 1, code := some k2c2 }
def k2c3 : Code := { maxStack := 1, maxLocals := 1, code := prog_37_method_4_code, exceptionTable := #[], attributes := #[] }
def k2m3 : Method := { name := "error", desc := "()I", sig := { parameters := [], returnType := some .int }, accessFlags := 1, code := some k2c3 }
def k2c4 : Code := { maxStack := 1, maxLocals := 1, code := prog_37_method_5_code, exceptionTable := #[], attributes := #[] }
def k2m4 : Method := { name := "chargesCreated", desc := "()I", sig := { parameters := [], returnType := some .int }, accessFlags := 1, code := some k2c4 }
def k2c5 : Code := { maxStack := 1, maxLocals := 1, code := prog_37_method_6_code, exceptionTable := #[], attributes := #[] }
def k2m5 : Method := { name := "endDatesChanged", desc := "()I", sig := { parameters := [], returnType := some .int }, accessFlags := 1, code := some k2c5 }
def k2c6 : Code := { maxStack := 1, maxLocals := 1, code := prog_37_method_7_code, exceptionTable := #[], attributes := #[] }
def k2m6 : Method := { name := "chargesCanceled", desc := "()I", sig := { parameters := [], returnType := some .int }, accessFlags := 1, code := some k2c6 }
/-- com/example/coverbill/coverbill/charge/ChargeRunResult -/
def k2 : Class := { plain "com/example/coverbill/coverbill/charge/ChargeRunResult" (some 0) with
  accessFlags := 49
  interfaces := #[]
  cf := some (fileOf pool2 8 #[] #[{ accessFlags := 0, nameIndex := 5, descriptorIndex := 27, attributes := #[] }, { accessFlags := 0, nameIndex := 34, descriptorIndex := 35, attributes := #[] }, { accessFlags := 1, nameIndex := 11, descriptorIndex := 36, attributes := #[] }, { accessFlags := 1, nameIndex := 15, descriptorIndex := 36, attributes := #[] }, { accessFlags := 1, nameIndex := 18, descriptorIndex := 36, attributes := #[] }, { accessFlags := 1, nameIndex := 21, descriptorIndex := 36, attributes := #[] }, { accessFlags := 1, nameIndex := 24, descriptorIndex := 36, attributes := #[] }] 49 2 #[] #[{ accessFlags := 24, nameIndex := 30, descriptorIndex := 31, attributes := #[] }, { accessFlags := 18, nameIndex := 11, descriptorIndex := 12, attributes := #[] }, { accessFlags := 18, nameIndex := 15, descriptorIndex := 12, attributes := #[] }, { accessFlags := 18, nameIndex := 18, descriptorIndex := 12, attributes := #[] }, { accessFlags := 18, nameIndex := 21, descriptorIndex := 12, attributes := #[] }, { accessFlags := 18, nameIndex := 24, descriptorIndex := 12, attributes := #[] }])
  fields := #[{ name := "NOTHING", type := (.object "com/example/coverbill/coverbill/charge/ChargeRunResult"), accessFlags := 24, slot := 0, constantValue := 0 }, { name := "complete", type := .int, accessFlags := 18, slot := 0, constantValue := 0 }, { name := "error", type := .int, accessFlags := 18, slot := 1, constantValue := 0 }, { name := "chargesCreated", type := .int, accessFlags := 18, slot := 2, constantValue := 0 }, { name := "endDatesChanged", type := .int, accessFlags := 18, slot := 3, constantValue := 0 }, { name := "chargesCanceled", type := .int, accessFlags := 18, slot := 4, constantValue := 0 }]
  methods := #[k2m0, k2m1, k2m2, k2m3, k2m4, k2m5, k2m6]
  instanceTypes := #[.int, .int, .int, .int, .int]
  staticTypes := #[(.object "com/example/coverbill/coverbill/charge/ChargeRunResult")]
  resolved := Array.replicate 40 none
  statics := none }

def pool3 : Array CpInfo := pool [(1, u "java/lang/Cloneable"), (0, .class_ 1), (0, u "java/lang/Object"), (0, .class_ 3)] 3

/-- java/lang/Cloneable -/
def k3 : Class := { plain "java/lang/Cloneable" (some 0) with
  accessFlags := 1537
  interfaces := #[]
  cf := some (fileOf pool3 2 #[] #[] 1537 4 #[] #[])
  fields := #[]
  methods := #[]
  instanceTypes := #[]
  staticTypes := #[]
  resolved := Array.replicate 8 none
  statics := none }

def pool4 : Array CpInfo := pool [(1, u "java/io/Serializable"), (0, .class_ 1), (0, u "java/lang/Object"), (0, .class_ 3)] 3

/-- java/io/Serializable -/
def k4 : Class := { plain "java/io/Serializable" (some 0) with
  accessFlags := 1537
  interfaces := #[]
  cf := some (fileOf pool4 2 #[] #[] 1537 4 #[] #[])
  fields := #[]
  methods := #[]
  instanceTypes := #[]
  staticTypes := #[]
  resolved := Array.replicate 8 none
  statics := none }

/-- the primitive byte -/
def k5 : Class := { plain "byte" none with kind := .primitive 'B', accessFlags := 0x411 }
/-- [B -/
def k6 : Class := { plain "[B" (some 0) with kind := .array 5 .byte, interfaces := #[3, 4], accessFlags := 1041 }

/-- the primitive int -/
def k7 : Class := { plain "int" none with kind := .primitive 'I', accessFlags := 0x411 }
/-- [I -/
def k8 : Class := { plain "[I" (some 0) with kind := .array 7 .int, interfaces := #[3, 4], accessFlags := 1041 }

def heap : Heap := #[]
def classes : Array Class := #[k0, k1, k2, k3, k4, k5, k6, k7, k8]
def interned : List (Array UInt16 × Addr) := []
def slotsUsed : Nat := 0
def theMethod : MethodId := ⟨1, 1⟩
def args0 : Array Value := #[.long 1, .long 2, .long 3, .long 4, .long 5]
def aboutOver (below : List Frame) : State where
  vm := { classes := classes, interned := interned.toArray }
  heap := heap
  slotsUsed := slotsUsed
  threads := #[{ frames := .invoking theMethod args0 :: below }]
def below0 : List Frame := [.native { method := ⟨0, 0⟩, args := #[] }]
def about1 : State := aboutOver below0
def p0 : Program := .bare "" "" ""
def e0 : Env := launch0.env 0 0 0
theorem w_frames : about1.frames = Frame.invoking theMethod args0 :: below0 := rfl
set_option maxRecDepth 65536 in
theorem w_args : argsFit about1.vm theMethod args0 = true := by decide +kernel
set_option maxRecDepth 65536 in
theorem w_heap : heapFits about1 = true := by decide +kernel
set_option maxRecDepth 65536 in
theorem w_runnable : about1.curStatus? = some .runnable := by decide +kernel
set_option maxRecDepth 65536 in
theorem w_alone : about1.alone = true := by decide +kernel
set_option maxRecDepth 65536 in
theorem w_named : about1.methodNamed? x = some theMethod := by decide +kernel
set_option maxRecDepth 65536 in
theorem w_hears : about1.hears theMethod below0 = true := by decide +kernel
set_option maxRecDepth 65536 in
theorem w_ripe : about1.ripe theMethod args0 below0 = true := by decide +kernel
theorem w_running : about1.status = .running := rfl
set_option maxRecDepth 65536 in
theorem w_room : about1.hasRoom e0.platform room_1 = true :=
  launch0.hasRoom_least _ room_1 (by decide +kernel) (by decide +kernel) (by decide +kernel) (by decide +kernel) (by decide +kernel) (by decide +kernel)
theorem allAtoms_all (ts : List Jvm.Cond) (a : Array Jvm.Value) (st : Jvm.State) : (allAtoms ts).before a st = ts.all (fun c => c.before a st) := by
  induction ts with
  | nil => rfl
  | cons c t ih =>
    show (Jvm.Cond.and c (allAtoms t)).before a st = _
    rw [Jvm.Cond.before_and, ih, List.all_cons]
def words1 : List Jvm.Cond := Jvm.Cond.code x code maxLocals ret :: tables_1
/-- a 'code' word, met by the world's own term for the bytes: nothing is compared byte by byte -/
theorem code_word {y : MethodName} {bytes : ByteArray} {mx : Nat} {rt : Option FieldType} {a : Array Value} {s : State} {m : MethodId} {meth : Method} {c : Code} (h1 : s.methodNamed? y = some m) (h2 : s.vm.method? m = some meth) (h3 : meth.code = some c) (h4 : c.code = bytes)
    (h5 : (c.maxLocals == mx && c.exceptionTable.isEmpty && decide (c.maxStack ≤ mostOperands) && decide (meth.sig.returnType = rt) && !meth.locks && decide (parseMethodDescriptor y.desc = some meth.sig)) = true) : (Jvm.Cond.code y bytes mx rt).before a s = true := by
  simp only [Bool.and_eq_true, beq_iff_eq, Bool.not_eq_true', decide_eq_true_eq] at h5
  obtain ⟨⟨⟨⟨⟨g1, g2⟩, g3⟩, g4⟩, g5⟩, g6⟩ := h5
  simp [Cond.before, Cond.holds, Cond.value, h1, h2, h3, h4, g1, g2, g3, g4, g5, g6]
def isCode : Jvm.Cond → Bool
  | .code _ _ _ _ => true
  | _ => false
theorem all_split {L : List Jvm.Cond} {P : Jvm.Cond → Bool} (h1 : L.all (fun c => isCode c || P c) = true) (h2 : ∀ c ∈ L.filter isCode, P c = true) : L.all P = true := by
  refine List.all_eq_true.mpr fun c hc => ?_
  have h := List.all_eq_true.mp h1 c hc
  rcases Bool.eq_false_or_eq_true (isCode c) with hi | hi
  · exact h2 c (List.mem_filter.mpr ⟨hc, hi⟩)
  · simpa [hi] using h
set_option maxRecDepth 65536 in
theorem w_c0 : (Jvm.Cond.code x code maxLocals ret).before args0 about1 = true := code_word (m := ⟨1, 1⟩) (meth := k1m1) (c := k1c1) (by decide +kernel) rfl rfl rfl (by decide +kernel)
set_option maxRecDepth 65536 in
theorem w_c1 : (Jvm.Cond.code ({ cls := "com/example/coverbill/coverbill/charge/ChargeRunResult", name := "<init>", desc := "(IIIII)V" } : Jvm.MethodName) prog_37_method_1_code (6 : Nat) (Option.none : Option Jvm.ClassFile.FieldType)).before args0 about1 = true := code_word (m := ⟨2, 0⟩) (meth := k2m0) (c := k2c0) (by decide +kernel) rfl rfl rfl (by decide +kernel)
set_option maxRecDepth 65536 in
theorem w_c2 : (Jvm.Cond.code ({ cls := "java/lang/Object", name := "<init>", desc := "()V" } : Jvm.MethodName) object_method_1_code (1 : Nat) (Option.none : Option Jvm.ClassFile.FieldType)).before args0 about1 = true := code_word (m := ⟨0, 0⟩) (meth := k0m0) (c := k0c0) (by decide +kernel) rfl rfl rfl (by decide +kernel)
set_option maxRecDepth 65536 in
theorem w_c3 : (Jvm.Cond.code ({ cls := "com/example/coverbill/coverbill/charge/ChargeRunResult", name := "plus", desc := "(Lcom/example/coverbill/coverbill/charge/ChargeRunResult;)Lcom/example/coverbill/coverbill/charge/ChargeRunResult;" } : Jvm.MethodName) prog_37_method_2_code (2 : Nat) (Option.some (Jvm.ClassFile.FieldType.object "com/example/coverbill/coverbill/charge/ChargeRunResult"))).before args0 about1 = true := code_word (m := ⟨2, 1⟩) (meth := k2m1) (c := k2c1) (by decide +kernel) rfl rfl rfl (by decide +kernel)
set_option maxRecDepth 65536 in
theorem w_c4 : (Jvm.Cond.code ({ cls := "com/example/coverbill/coverbill/charge/ChargeRunResult", name := "complete", desc := "()I" } : Jvm.MethodName) prog_37_method_3_code (1 : Nat) (Option.some Jvm.ClassFile.FieldType.int)).before args0 about1 = true := code_word (m := ⟨2, 2⟩) (meth := k2m2) (c := k2c2) (by decide +kernel) rfl rfl rfl (by decide +kernel)
set_option maxRecDepth 65536 in
theorem w_c5 : (Jvm.Cond.code ({ cls := "com/example/coverbill/coverbill/charge/ChargeRunResultPlusPinLaw", name := "sum", desc := "(II)I" } : Jvm.MethodName) method_3_code (2 : Nat) (Option.some Jvm.ClassFile.FieldType.int)).before args0 about1 = true := code_word (m := ⟨1, 2⟩) (meth := k1m2) (c := k1c2) (by decide +kernel) rfl rfl rfl (by decide +kernel)
set_option maxRecDepth 65536 in
theorem w_c6 : (Jvm.Cond.code ({ cls := "com/example/coverbill/coverbill/charge/ChargeRunResult", name := "error", desc := "()I" } : Jvm.MethodName) prog_37_method_4_code (1 : Nat) (Option.some Jvm.ClassFile.FieldType.int)).before args0 about1 = true := code_word (m := ⟨2, 3⟩) (meth := k2m3) (c := k2c3) (by decide +kernel) rfl rfl rfl (by decide +kernel)
set_option maxRecDepth 65536 in
theorem w_c7 : (Jvm.Cond.code ({ cls := "com/example/coverbill/coverbill/charge/ChargeRunResult", name := "chargesCreated", desc := "()I" } : Jvm.MethodName) prog_37_method_5_code (1 : Nat) (Option.some Jvm.ClassFile.FieldType.int)).before args0 about1 = true := code_word (m := ⟨2, 4⟩) (meth := k2m4) (c := k2c4) (by decide +kernel) rfl rfl rfl (by decide +kernel)
set_option maxRecDepth 65536 in
theorem w_c8 : (Jvm.Cond.code ({ cls := "com/example/coverbill/coverbill/charge/ChargeRunResult", name := "endDatesChanged", desc := "()I" } : Jvm.MethodName) prog_37_method_6_code (1 : Nat) (Option.some Jvm.ClassFile.FieldType.int)).before args0 about1 = true := code_word (m := ⟨2, 5⟩) (meth := k2m5) (c := k2c5) (by decide +kernel) rfl rfl rfl (by decide +kernel)
set_option maxRecDepth 65536 in
theorem w_c9 : (Jvm.Cond.code ({ cls := "com/example/coverbill/coverbill/charge/ChargeRunResult", name := "chargesCanceled", desc := "()I" } : Jvm.MethodName) prog_37_method_7_code (1 : Nat) (Option.some Jvm.ClassFile.FieldType.int)).before args0 about1 = true := code_word (m := ⟨2, 6⟩) (meth := k2m6) (c := k2c6) (by decide +kernel) rfl rfl rfl (by decide +kernel)
def codes1 : List Jvm.Cond := [Jvm.Cond.code x code maxLocals ret, Jvm.Cond.code ({ cls := "com/example/coverbill/coverbill/charge/ChargeRunResult", name := "<init>", desc := "(IIIII)V" } : Jvm.MethodName) prog_37_method_1_code (6 : Nat) (Option.none : Option Jvm.ClassFile.FieldType), Jvm.Cond.code ({ cls := "java/lang/Object", name := "<init>", desc := "()V" } : Jvm.MethodName) object_method_1_code (1 : Nat) (Option.none : Option Jvm.ClassFile.FieldType), Jvm.Cond.code ({ cls := "com/example/coverbill/coverbill/charge/ChargeRunResult", name := "plus", desc := "(Lcom/example/coverbill/coverbill/charge/ChargeRunResult;)Lcom/example/coverbill/coverbill/charge/ChargeRunResult;" } : Jvm.MethodName) prog_37_method_2_code (2 : Nat) (Option.some (Jvm.ClassFile.FieldType.object "com/example/coverbill/coverbill/charge/ChargeRunResult")), Jvm.Cond.code ({ cls := "com/example/coverbill/coverbill/charge/ChargeRunResult", name := "complete", desc := "()I" } : Jvm.MethodName) prog_37_method_3_code (1 : Nat) (Option.some Jvm.ClassFile.FieldType.int), Jvm.Cond.code ({ cls := "com/example/coverbill/coverbill/charge/ChargeRunResultPlusPinLaw", name := "sum", desc := "(II)I" } : Jvm.MethodName) method_3_code (2 : Nat) (Option.some Jvm.ClassFile.FieldType.int), Jvm.Cond.code ({ cls := "com/example/coverbill/coverbill/charge/ChargeRunResult", name := "error", desc := "()I" } : Jvm.MethodName) prog_37_method_4_code (1 : Nat) (Option.some Jvm.ClassFile.FieldType.int), Jvm.Cond.code ({ cls := "com/example/coverbill/coverbill/charge/ChargeRunResult", name := "chargesCreated", desc := "()I" } : Jvm.MethodName) prog_37_method_5_code (1 : Nat) (Option.some Jvm.ClassFile.FieldType.int), Jvm.Cond.code ({ cls := "com/example/coverbill/coverbill/charge/ChargeRunResult", name := "endDatesChanged", desc := "()I" } : Jvm.MethodName) prog_37_method_6_code (1 : Nat) (Option.some Jvm.ClassFile.FieldType.int), Jvm.Cond.code ({ cls := "com/example/coverbill/coverbill/charge/ChargeRunResult", name := "chargesCanceled", desc := "()I" } : Jvm.MethodName) prog_37_method_7_code (1 : Nat) (Option.some Jvm.ClassFile.FieldType.int)]
set_option maxRecDepth 65536 in
theorem codes_eq : words1.filter isCode = codes1 := rfl
theorem w_codes : ∀ c ∈ words1.filter isCode, c.before args0 about1 = true := by
  rw [codes_eq]
  intro c hc
  simp only [codes1, List.mem_cons, List.not_mem_nil, or_false] at hc
  rcases hc with rfl | rfl | rfl | rfl | rfl | rfl | rfl | rfl | rfl | rfl
  · exact w_c0
  · exact w_c1
  · exact w_c2
  · exact w_c3
  · exact w_c4
  · exact w_c5
  · exact w_c6
  · exact w_c7
  · exact w_c8
  · exact w_c9
set_option maxRecDepth 65536 in
theorem w_t1 : (words1.take 24).all (fun c => isCode c || c.before args0 about1) = true := by decide +kernel
set_option maxRecDepth 65536 in
theorem w_t2 : ((words1.drop 24).take 24).all (fun c => isCode c || c.before args0 about1) = true := by decide +kernel
set_option maxRecDepth 65536 in
theorem w_t3 : ((words1.drop 24).drop 24).all (fun c => isCode c || c.before args0 about1) = true := by decide +kernel
theorem w_tables : (allAtoms (Jvm.Cond.code x code maxLocals ret :: tables_1)).before args0 about1 = true := by
  rw [allAtoms_all]
  show words1.all (fun c => c.before args0 about1) = true
  refine all_split ?_ w_codes
  rw [← List.take_append_drop 24 words1, List.all_append, w_t1, ← List.take_append_drop 24 (words1.drop 24), List.all_append, w_t2, w_t3]
  rfl
set_option maxRecDepth 65536 in
theorem w_case : (Jvm.Cond.and given_1 narrow_1).before args0 about1 = true := by decide +kernel
theorem w_applies : (headSpec (Jvm.Cond.code x code maxLocals ret :: tables_1) room_1).applies x e0.platform about1 = true :=
  (Spec.applies_iff w_frames).mpr ⟨w_running, w_runnable, w_alone, w_named, w_hears, w_ripe, w_room, w_tables⟩
theorem atStart : AtStart classFile x code maxLocals ret World_1 tables_1 room_1 Calls_1 rest_1 Pre_1 launch0 p0 e0 about1 theMethod args0 below0 :=
  ⟨lists_1, trivial, launch0.admits_env _ _ _, launch0.least_env, fairChoices_fair.cas, fairChoices_fair.clock, w_frames, w_args, w_heap, w_applies, trivial, trivial, w_case⟩
end start1
theorem witness_1 : WitnessClaimed_1 := ⟨start1.p0, start1.e0, start1.about1, start1.theMethod, start1.args0, start1.below0, start1.atStart⟩
end Jvm.Pilot.@@N@@
