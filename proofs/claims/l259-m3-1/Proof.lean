import JvmDerived
import JvmDerived.Pilot.@@N@@Statement
import JvmDerived.Pilot.@@N@@Code
set_option linter.unusedVariables false
set_option linter.unusedSimpArgs false
namespace Jvm.RoadKit
open Sem ClassFile Op Lib Jvm.Stand Jvm.Free Jvm.LawKit
section New
variable {p : Program} {l : Launch} {e : Env} {R : Room} {s : State} {m : MethodId} {args : Array Value} {below : List Frame} {meth : Method} {c : Code} {T : State} {locs : List Loc} {cells slots : Nat}
theorem retI (X : Stand p l e R s m args below meth c T locs cells slots) (hx : p.tables.exec = Jvm.exec) {pc : Nat} {Ls : Array Slot} {z : Int32} {rest : List Value} (hret : meth.sig.returnType = some .int) (hd : decode c.code pc = .ok (.ireturn, 1)) {fs : List Frame}
    (hl : ∀ (f : JFrame) (acts : List Action), f.method = m → f.locked = none → f.entered = [] → (doReturn e (T.setTop f) acts (some (.int z))).1 = T.setFrames fs) : Steps p.tables e below (T.setTop (mkF m pc Ls (.int z :: rest))) (T.setFrames fs) := by
  have hm' : T.vm.method? m = some meth := X.method'
  have hn : narrow .int (.int z) = .int z := rfl
  show Steps p.tables e below (T.setTop { method := m, pc := pc, locals := Ls, stack := _ :: rest, locked := none }) _
  jvm_step X.here [X.here.top, hx, hd, hm', hret, hn]
  first | (intro acts; rw [hl _ acts rfl rfl rfl]) | rw [hl _ _ rfl rfl rfl]
  exact Steps.refl _
end New
end Jvm.RoadKit
namespace Jvm.Pilot.@@N@@
open Jvm Jvm.ClassFile Sem Op Lib Jvm.Free Jvm.Stand Jvm.LawKit Jvm.RoadKit Bundle Jvm.Pilot.@@N@@.Jvm.D
/-- from the state T the run comes to a state of which K holds -/
def own_Go (p : Program) (e : Env) (below : List Frame) (K : State → Prop) (T : State) : Prop := ∃ t, Steps p.tables e below T t ∧ K t
theorem own_st {p : Program} {e : Env} {below : List Frame} {K : State → Prop} {T T' : State} (h : ∀ t, Steps p.tables e below T' t → Steps p.tables e below T t) (g : own_Go p e below K T') : own_Go p e below K T := by
  obtain ⟨t, a, b⟩ := g; exact ⟨t, h t a, b⟩
theorem own_tr {p : Program} {e : Env} {below : List Frame} {K : State → Prop} {T T' : State} (h : Steps p.tables e below T T') (g : own_Go p e below K T') : own_Go p e below K T := by
  obtain ⟨t, a, b⟩ := g; exact ⟨t, h.trans a, b⟩
theorem own_lrem {tb : Tables} [Ours tb] {e : Env} {below : List Frame} {T target : State} {m : MethodId} {c : Code} {g : JFrame} (h : At T m c below) (hx : tb.exec = Jvm.exec) (hg : g.method = m) {x y : Int64} {rest : List Value} (hd : decode c.code g.pc = .ok (.lrem, 1)) (hs : g.stack = .long y :: .long x :: rest) (hy : y ≠ 0)
    (hr : Steps tb e below (T.setTop { g with pc := g.pc + 1, stack := .long (x % y) :: rest }) target) : Steps tb e below (T.setTop g) target := by
  have q : x - x / y * y = x % y := lrem_mod x y
  exact XS.lrem h hx hg hd hs hy (by rw [q]; exact hr)
/-- a boolean's worth: 1 where P holds, 0 where it doesn't -/
def own_B (P : Prop) (r : Int32) : Prop := (r = 1 ∧ P) ∨ (r = 0 ∧ ¬ P)
theorem own_B.yes {P : Prop} {r : Int32} (e : r = 1) (h : P) : own_B P r := Or.inl ⟨e, h⟩
theorem own_B.no {P : Prop} {r : Int32} (e : r = 0) (h : ¬ P) : own_B P r := Or.inr ⟨e, h⟩
theorem own_B.same {P Q : Prop} {r v : Int32} (a : own_B P r) (b : own_B Q v) (h : P ↔ Q) : r = v := by
  rcases a with ⟨rfl, p⟩ | ⟨rfl, p⟩ <;> rcases b with ⟨rfl, q⟩ | ⟨rfl, q⟩
  · rfl
  · exact absurd (h.mp p) q
  · exact absurd (h.mpr q) p
  · rfl
theorem own_B.one {P : Prop} {r : Int32} (a : own_B P r) (h : P) : r = 1 := by
  rcases a with ⟨rfl, p⟩ | ⟨rfl, p⟩
  · rfl
  · exact absurd h p
theorem own_B.zero {P : Prop} {r : Int32} (a : own_B P r) (h : ¬ P) : r = 0 := by
  rcases a with ⟨rfl, p⟩ | ⟨rfl, p⟩
  · exact absurd p h
  · rfl
theorem own_B.ne0 {P : Prop} {r : Int32} (a : own_B P r) (h : P) : ¬ r = 0 := by rw [a.one h]; decide
theorem own_B.holds {P : Prop} {r : Int32} (a : own_B P r) (h : ¬ r = 0) : P := by
  rcases a with ⟨rfl, p⟩ | ⟨rfl, p⟩
  · exact p
  · exact absurd rfl h
theorem own_B.fails {P : Prop} {r : Int32} (a : own_B P r) (h : r = 0) : ¬ P := by
  rcases a with ⟨rfl, p⟩ | ⟨rfl, p⟩
  · exact absurd h (by decide)
  · exact p
theorem own_atJ (ws : List Int64) (i : Nat) : (ws.map Value.long).getD i (.long (0 : Int64)) = .long (ws.getD i 0) := by
  simp only [List.getD, List.getElem?_map]; cases ws[i]? <;> rfl
theorem own_atI (ws : List Int32) (i : Nat) : (ws.map Value.int).getD i (.int (0 : Int32)) = .int (ws.getD i 0) := by
  simp only [List.getD, List.getElem?_map]; cases ws[i]? <;> rfl
theorem own_selp {Z s : State} {a0 args : Array Value} {y : MethodName} {n : Nat} (hZ : Z.Warmed39 s.vm) (wi : (Jvm.Cond.instantiable y.cls n).before a0 Z = true) (wm : (Jvm.Cond.instanceMethod y).before a0 Z = true) (wp : (Jvm.Cond.privateMethod y).before a0 Z = true) (hy : y.cls ≠ "java/lang/invoke/MethodHandle" ∧ y.cls ≠ "java/lang/invoke/VarHandle") : (Jvm.Cond.selects y.cls y y).before args s = true := by
  have w1 : (Jvm.Cond.instantiable y.cls n).before args s = true := mvT hZ wi
  obtain ⟨c, k, h1, h2, h3, h4, -⟩ := Cond.instantiable_spec w1
  have h5 : k.isInterface = false := by cases hq : k.isInterface <;> simp [hq] at h4 ⊢
  exact selects_self_of_private h1 h2 h5 (Cond.privateMethod_at (mvP hZ wp (args := args))) (mvT hZ wm) hy
theorem own_hat {T : State} {h : Heap} {a : Addr} {c : Cell} (e : T.heap = h) (q : h[a]? = some c) : T.heap[a]? = some c := by rw [e]; exact q
theorem own_nn (x : Int32) : nar .byte (nar .byte x) = nar .byte x := by
  refine Int32.toInt_inj.mp ?_
  have a := c_i2b x
  have b := c_i2b x.toInt8.toInt32
  show x.toInt8.toInt32.toInt8.toInt32.toInt = x.toInt8.toInt32.toInt
  omega
theorem own_nb (x : Int32) : nar .byte x.toInt8.toInt32 = x.toInt8.toInt32 := own_nn x
theorem own_fit {x : Int32} (h : nar .byte x = x) : fits .byte (.int x) = true := by rw [← h]; exact fits_nar_byte x
theorem own_cl {j : Int32} {i : Nat} (h : j.toInt = (i : Int)) : j.toNatClampNeg = i := by rw [Int32.toNatClampNeg, h]; rfl
theorem own_lt {a b : Int32} (h : a.toInt < b.toInt) : a < b := Int32.lt_iff_toInt_lt.mpr h
theorem own_nlt {a b : Int32} (h : b.toInt ≤ a.toInt) : ¬ a < b := fun q => absurd (Int32.lt_iff_toInt_lt.mp q) (by omega)
theorem own_ltI {a b : Int32} (h : a < b) : a.toInt < b.toInt := Int32.lt_iff_toInt_lt.mp h
theorem own_nltI {a b : Int32} (h : ¬ a < b) : b.toInt ≤ a.toInt := by have := mt Int32.lt_iff_toInt_lt.mpr h; omega
theorem own_neI {a b : Int32} (h : ¬ a = b) : ¬ a.toInt = b.toInt := fun q => h (Int32.toInt_inj.mp q)
theorem own_ltL {a b : Int64} (h : a < b) : a.toInt < b.toInt := Int64.lt_iff_toInt_lt.mp h
theorem own_nltL {a b : Int64} (h : ¬ a < b) : b.toInt ≤ a.toInt := by have := mt Int64.lt_iff_toInt_lt.mpr h; omega
theorem own_neL {a b : Int64} (h : ¬ a = b) : ¬ a.toInt = b.toInt := fun q => h (Int64.toInt_inj.mp q)
def own_hb (a : Int32) : Int32 := if a < 0 then 0 else if a < 4194304 then 1 else 0
def own_hw (a : Int32) : Int32 := if a < 0 then 0 else if a < 1048576 then 1 else 0
theorem own_hb1 {a : Int32} (h0 : 0 ≤ a.toInt) (h1 : a.toInt < 4194304) : own_hb a = 1 := by
  have e1 : ¬ a < 0 := by rw [Int32.lt_iff_toInt_lt]; show ¬ a.toInt < 0; omega
  have e2 : a < 4194304 := by rw [Int32.lt_iff_toInt_lt]; show a.toInt < 4194304; omega
  simp only [own_hb, e1, e2, if_true, if_false]
theorem own_hb0 {a : Int32} (h : a.toInt < 0 ∨ 4194304 ≤ a.toInt) : own_hb a = 0 := by
  by_cases e1 : a < 0
  · simp only [own_hb, e1, if_true]
  · have e2 : ¬ a < 4194304 := by
      rw [Int32.lt_iff_toInt_lt] at e1 ⊢
      have e1' : ¬ a.toInt < 0 := e1
      show ¬ a.toInt < 4194304
      omega
    simp only [own_hb, e1, e2, if_false]
theorem own_hw1 {a : Int32} (h0 : 0 ≤ a.toInt) (h1 : a.toInt < 1048576) : own_hw a = 1 := by
  have e1 : ¬ a < 0 := by rw [Int32.lt_iff_toInt_lt]; show ¬ a.toInt < 0; omega
  have e2 : a < 1048576 := by rw [Int32.lt_iff_toInt_lt]; show a.toInt < 1048576; omega
  simp only [own_hw, e1, e2, if_true, if_false]
theorem own_hw0 {a : Int32} (h : a.toInt < 0 ∨ 1048576 ≤ a.toInt) : own_hw a = 0 := by
  by_cases e1 : a < 0
  · simp only [own_hw, e1, if_true]
  · have e2 : ¬ a < 1048576 := by
      rw [Int32.lt_iff_toInt_lt] at e1 ⊢
      have e1' : ¬ a.toInt < 0 := e1
      show ¬ a.toInt < 1048576
      omega
    simp only [own_hw, e1, e2, if_false]
theorem own_sh (a : Int32) : ((a.toUInt32 >>> ((22 : Int32) &&& 31).toUInt32).toInt32).toInt = (a.toInt % 4294967296) / 4194304 := c_iushr a 22 22 (by decide) (by decide)
theorem own_l1 {a : Int32} (h : ((a.toUInt32 >>> ((22 : Int32) &&& 31).toUInt32).toInt32) = (0 : Int32)) : own_hb a = 1 := by
  have e := own_sh a
  rw [h] at e
  have e' : (0 : Int) = (a.toInt % 4294967296) / 4194304 := e
  have r := rng32 a
  exact own_hb1 (by omega) (by omega)
theorem own_l0 {a : Int32} (h : ¬ ((a.toUInt32 >>> ((22 : Int32) &&& 31).toUInt32).toInt32) = (0 : Int32)) : own_hb a = 0 := by
  have e := own_sh a
  have r := rng32 a
  have h' : ¬ ((a.toUInt32 >>> ((22 : Int32) &&& 31).toUInt32).toInt32).toInt = 0 := fun q => h (Int32.toInt_inj.mp q)
  rw [e] at h'
  refine own_hb0 ?_
  omega
theorem own_l2 (a : Int32) : own_hb a = own_hw (a >>> ((2 : Int32) &&& 31)) := by
  have e : (a >>> ((2 : Int32) &&& 31)).toInt = a.toInt / 4 := c_ishr a 2 2 (by decide)
  have r := rng32 a
  by_cases h : 0 ≤ a.toInt ∧ a.toInt < 4194304
  · rw [own_hb1 h.1 h.2, own_hw1 (by omega) (by omega)]
  · rw [own_hb0 (by omega), own_hw0 (by omega)]
theorem d1_0 : decode prog_63_method_3_code 0 = .ok (.iload_n 0, 1) := by decide +kernel
theorem d1_1 : decode prog_63_method_3_code 1 = .ok (.ifCond .lt 13, 3) := by decide +kernel
theorem d1_4 : decode prog_63_method_3_code 4 = .ok (.iload_n 0, 1) := by decide +kernel
theorem d1_5 : decode prog_63_method_3_code 5 = .ok (.ldc 14, 2) := by decide +kernel
theorem d1_7 : decode prog_63_method_3_code 7 = .ok (.if_icmp .ge 7, 3) := by decide +kernel
theorem d1_10 : decode prog_63_method_3_code 10 = .ok (.iconst 1, 1) := by decide +kernel
theorem d1_11 : decode prog_63_method_3_code 11 = .ok (.goto 4, 3) := by decide +kernel
theorem d1_14 : decode prog_63_method_3_code 14 = .ok (.iconst 0, 1) := by decide +kernel
theorem d1_15 : decode prog_63_method_3_code 15 = .ok (.ireturn, 1) := by decide +kernel
theorem pn_1 : plainName "com/example/micrologue/micrologue/Memory" = true := by first | (simp [plainName, overriddenIn]; done) | decide +kernel
theorem ef_1 (m : MethodId) (x0 : Int32) : entryFrame m #[(.int x0)] 1 = mkF m 0 #[.val (.int x0)] [] := by first | (simp [entryFrame, mkF, argsToLocals, Value.category]; done) | rfl
def Q1 (Z : State) (p1 : Int32) (h0 : Heap) (n0 : Nat) (v : Option Value) (h : Heap) (L : List Loc) : Prop := ∃ (r : Int32), v = some (.int r) ∧ (r = own_hb p1) ∧ Fr n0 L ∧ h = h0
set_option maxRecDepth 65536 in
set_option maxHeartbeats 40000000 in
theorem rm1 (l : Launch) (Z : State) (a0 : Array Value) (hw : ∀ d ∈ tables_1, d.before a0 Z = true) (ws : List Jvm.Cond) (p1 : Int32) (h0 : Heap) (n0 : Nat) (Z0 : n0 ≤ h0.size)  :
    MetFree l (⟨"com/example/micrologue/micrologue/Memory", "holdsByte", "(I)Z"⟩ : MethodName) (head1 (Jvm.Cond.code (⟨"com/example/micrologue/micrologue/Memory", "holdsByte", "(I)Z"⟩ : MethodName) prog_63_method_3_code 1 (some .boolean) :: ws) ({ frames := 0, cells := 0, slots := 0, locals := 0 } : Room)) (fun a U => a = #[(.int p1)] ∧ Z.Warmed39 U.vm ∧ U.heap = h0) (fun _ _ _ _ _ => True) (fun _ U o U' => ∃ v L, o = .returned v ∧ Q1 Z p1 h0 n0 v U'.heap L ∧ FrameEnd U o U' L ({ frames := 0, cells := 0, slots := 0, locals := 0 } : Room).cells ({ frames := 0, cells := 0, slots := 0, locals := 0 } : Room).slots) := by
  refine MetFree.of_bodySF (plainFor_of_name pn_1) hisR ?_
  intro p e s m args below meth c s₁ Bd hml0 hP hK
  obtain ⟨rfl, hZ, hh⟩ := hP
  have hx := Bd.exec
  have hby := Bd.bytes
  have hml : c.maxLocals = 1 := hml0
  have hown : s.vm.findClass "com/example/micrologue/micrologue/Memory" = some m.cls := findClass_of_methodNamed Bd.named
  have hnm := (name_of_methodNamed Bd.named Bd.method).1
  have X0 : Stand p l e ({ frames := 0, cells := 0, slots := 0, locals := 0 } : Room) s m #[(.int p1)] below meth c s₁ [] 0 0 := Stand.of_body Bd
  have e0 : s₁.heap = h0 := by rw [← hh, Bd.state]; rfl
  have N0 := Fr.nil n0
  suffices G0 : ∀ K : State → Prop, (∀ (n : State) (v : Option Value) (L : List Loc), n.status = .running → Ended n below (.returned v) → Q1 Z p1 h0 n0 v n.heap L → FrameEnd s (.returned v) n L ({ frames := 0, cells := 0, slots := 0, locals := 0 } : Room).cells ({ frames := 0, cells := 0, slots := 0, locals := 0 } : Room).slots → K n) → own_Go p e below K (s₁.setTop (mkF m 0 #[.val (.int p1)] [])) by
    obtain ⟨t, st, o, a, b, v, L, e1, q, fe⟩ := G0 (fun n => ∃ o, n.status = .running ∧ Ended n below o ∧ ∃ v L, o = .returned v ∧ Q1 Z p1 h0 n0 v n.heap L ∧ FrameEnd s o n L ({ frames := 0, cells := 0, slots := 0, locals := 0 } : Room).cells ({ frames := 0, cells := 0, slots := 0, locals := 0 } : Room).slots) (fun n v L a b q f => ⟨_, a, b, v, L, rfl, q, f⟩)
    exact ⟨t, o, castTop (ef_1 m p1) st, a, b, v, L, e1, q, fe⟩
  intro K fin
  show own_Go p e below K (s₁.setTop (mkF m 0 #[.val (.int p1)] []))
  refine own_st (fun t k => XS.iloadN X0.here hx rfl (hb hby d1_0) rfl k) ?_
  show own_Go p e below K (s₁.setTop (mkF m 1 #[.val (.int p1)] [(.int p1)]))
  by_cases hc1 : p1 < (0 : Int32)
  · refine own_st (fun t k => XS.ifYes X0.here hx rfl (pc0 := 1) (pc' := 14) rfl (hb hby d1_1) rfl ((if0 _ _).trans (tlt hc1).1) (by decide) (by decide) k) ?_
    show own_Go p e below K (s₁.setTop (mkF m 14 #[.val (.int p1)] []))
    refine own_st (fun t k => XS.iconst X0.here hx rfl (hb hby d1_14) k) ?_
    show own_Go p e below K (s₁.setTop (mkF m 15 #[.val (.int p1)] [(.int (0 : Int32))]))
    obtain ⟨fs, hr, hrun, hended, hW, hsame⟩ := X0.leave (v := some (.int (nar .boolean (0 : Int32)))) (fun h => by rw [Bd.returns] at h; cases h)
    refine ⟨_, retN X0 hx (t := .boolean) Bd.returns (by simp) (hb hby d1_15) hr, fin _ _ _ hrun hended ?_ ⟨⟨_, rfl⟩, hW, hsame.mono (by decide) (by decide)⟩⟩
    show Q1 Z p1 h0 n0 _ s₁.heap _
    rw [e0]
    exact ⟨_, rfl, (by simp only [own_hb, hc1, if_true, if_false]; first | done | rfl | decide), N0, rfl⟩
  refine own_st (fun t k => XS.ifNo X0.here hx rfl (hb hby d1_1) rfl ((if0 _ _).trans (flt hc1).1) k) ?_
  show own_Go p e below K (s₁.setTop (mkF m 4 #[.val (.int p1)] []))
  refine own_st (fun t k => XS.iloadN X0.here hx rfl (hb hby d1_4) rfl k) ?_
  show own_Go p e below K (s₁.setTop (mkF m 5 #[.val (.int p1)] [(.int p1)]))
  refine own_st (X0.ldcInt hx hown (mvT hZ (hw _ (List.mem_of_getElem? (i := 4) rfl))) (g := (mkF m 5 #[.val (.int p1)] [(.int p1)])) rfl (hb hby d1_5)) ?_
  show own_Go p e below K (s₁.setTop (mkF m 7 #[.val (.int p1)] [(.int (4194304 : Int32)), (.int p1)]))
  by_cases hc7 : p1 < (4194304 : Int32)
  · refine own_st (fun t k => XS.icmpNo X0.here hx rfl (hb hby d1_7) rfl (tlt hc7).2.1 k) ?_
    show own_Go p e below K (s₁.setTop (mkF m 10 #[.val (.int p1)] []))
    refine own_st (fun t k => XS.iconst X0.here hx rfl (hb hby d1_10) k) ?_
    show own_Go p e below K (s₁.setTop (mkF m 11 #[.val (.int p1)] [(.int (1 : Int32))]))
    refine own_st (fun t k => XS.goto X0.here hx rfl (pc0 := 11) (pc' := 15) rfl (hb hby d1_11) (by decide) (by decide) k) ?_
    show own_Go p e below K (s₁.setTop (mkF m 15 #[.val (.int p1)] [(.int (1 : Int32))]))
    obtain ⟨fs, hr, hrun, hended, hW, hsame⟩ := X0.leave (v := some (.int (nar .boolean (1 : Int32)))) (fun h => by rw [Bd.returns] at h; cases h)
    refine ⟨_, retN X0 hx (t := .boolean) Bd.returns (by simp) (hb hby d1_15) hr, fin _ _ _ hrun hended ?_ ⟨⟨_, rfl⟩, hW, hsame.mono (by decide) (by decide)⟩⟩
    show Q1 Z p1 h0 n0 _ s₁.heap _
    rw [e0]
    exact ⟨_, rfl, (by simp only [own_hb, hc1, hc7, if_true, if_false]; first | done | rfl | decide), N0, rfl⟩
  refine own_st (fun t k => XS.icmpYes X0.here hx rfl (pc0 := 7) (pc' := 14) rfl (hb hby d1_7) rfl (flt hc7).2.1 (by decide) (by decide) k) ?_
  show own_Go p e below K (s₁.setTop (mkF m 14 #[.val (.int p1)] []))
  refine own_st (fun t k => XS.iconst X0.here hx rfl (hb hby d1_14) k) ?_
  show own_Go p e below K (s₁.setTop (mkF m 15 #[.val (.int p1)] [(.int (0 : Int32))]))
  obtain ⟨fs, hr, hrun, hended, hW, hsame⟩ := X0.leave (v := some (.int (nar .boolean (0 : Int32)))) (fun h => by rw [Bd.returns] at h; cases h)
  refine ⟨_, retN X0 hx (t := .boolean) Bd.returns (by simp) (hb hby d1_15) hr, fin _ _ _ hrun hended ?_ ⟨⟨_, rfl⟩, hW, hsame.mono (by decide) (by decide)⟩⟩
  show Q1 Z p1 h0 n0 _ s₁.heap _
  rw [e0]
  exact ⟨_, rfl, (by simp only [own_hb, hc1, hc7, if_true, if_false]; first | done | rfl | decide), N0, rfl⟩
theorem d2_0 : decode prog_63_method_2_code 0 = .ok (.iload_n 0, 1) := by decide +kernel
theorem d2_1 : decode prog_63_method_2_code 1 = .ok (.ifCond .lt 13, 3) := by decide +kernel
theorem d2_4 : decode prog_63_method_2_code 4 = .ok (.iload_n 0, 1) := by decide +kernel
theorem d2_5 : decode prog_63_method_2_code 5 = .ok (.ldc 9, 2) := by decide +kernel
theorem d2_7 : decode prog_63_method_2_code 7 = .ok (.if_icmp .ge 7, 3) := by decide +kernel
theorem d2_10 : decode prog_63_method_2_code 10 = .ok (.iconst 1, 1) := by decide +kernel
theorem d2_11 : decode prog_63_method_2_code 11 = .ok (.goto 4, 3) := by decide +kernel
theorem d2_14 : decode prog_63_method_2_code 14 = .ok (.iconst 0, 1) := by decide +kernel
theorem d2_15 : decode prog_63_method_2_code 15 = .ok (.ireturn, 1) := by decide +kernel
theorem pn_2 : plainName "com/example/micrologue/micrologue/Memory" = true := by first | (simp [plainName, overriddenIn]; done) | decide +kernel
theorem ef_2 (m : MethodId) (x0 : Int32) : entryFrame m #[(.int x0)] 1 = mkF m 0 #[.val (.int x0)] [] := by first | (simp [entryFrame, mkF, argsToLocals, Value.category]; done) | rfl
def Q2 (Z : State) (p1 : Int32) (h0 : Heap) (n0 : Nat) (v : Option Value) (h : Heap) (L : List Loc) : Prop := ∃ (r : Int32), v = some (.int r) ∧ (r = own_hw p1) ∧ Fr n0 L ∧ h = h0
set_option maxRecDepth 65536 in
set_option maxHeartbeats 40000000 in
theorem rm2 (l : Launch) (Z : State) (a0 : Array Value) (hw : ∀ d ∈ tables_1, d.before a0 Z = true) (ws : List Jvm.Cond) (p1 : Int32) (h0 : Heap) (n0 : Nat) (Z0 : n0 ≤ h0.size)  :
    MetFree l (⟨"com/example/micrologue/micrologue/Memory", "holdsWord", "(I)Z"⟩ : MethodName) (head1 (Jvm.Cond.code (⟨"com/example/micrologue/micrologue/Memory", "holdsWord", "(I)Z"⟩ : MethodName) prog_63_method_2_code 1 (some .boolean) :: ws) ({ frames := 0, cells := 0, slots := 0, locals := 0 } : Room)) (fun a U => a = #[(.int p1)] ∧ Z.Warmed39 U.vm ∧ U.heap = h0) (fun _ _ _ _ _ => True) (fun _ U o U' => ∃ v L, o = .returned v ∧ Q2 Z p1 h0 n0 v U'.heap L ∧ FrameEnd U o U' L ({ frames := 0, cells := 0, slots := 0, locals := 0 } : Room).cells ({ frames := 0, cells := 0, slots := 0, locals := 0 } : Room).slots) := by
  refine MetFree.of_bodySF (plainFor_of_name pn_2) hisR ?_
  intro p e s m args below meth c s₁ Bd hml0 hP hK
  obtain ⟨rfl, hZ, hh⟩ := hP
  have hx := Bd.exec
  have hby := Bd.bytes
  have hml : c.maxLocals = 1 := hml0
  have hown : s.vm.findClass "com/example/micrologue/micrologue/Memory" = some m.cls := findClass_of_methodNamed Bd.named
  have hnm := (name_of_methodNamed Bd.named Bd.method).1
  have X0 : Stand p l e ({ frames := 0, cells := 0, slots := 0, locals := 0 } : Room) s m #[(.int p1)] below meth c s₁ [] 0 0 := Stand.of_body Bd
  have e0 : s₁.heap = h0 := by rw [← hh, Bd.state]; rfl
  have N0 := Fr.nil n0
  suffices G0 : ∀ K : State → Prop, (∀ (n : State) (v : Option Value) (L : List Loc), n.status = .running → Ended n below (.returned v) → Q2 Z p1 h0 n0 v n.heap L → FrameEnd s (.returned v) n L ({ frames := 0, cells := 0, slots := 0, locals := 0 } : Room).cells ({ frames := 0, cells := 0, slots := 0, locals := 0 } : Room).slots → K n) → own_Go p e below K (s₁.setTop (mkF m 0 #[.val (.int p1)] [])) by
    obtain ⟨t, st, o, a, b, v, L, e1, q, fe⟩ := G0 (fun n => ∃ o, n.status = .running ∧ Ended n below o ∧ ∃ v L, o = .returned v ∧ Q2 Z p1 h0 n0 v n.heap L ∧ FrameEnd s o n L ({ frames := 0, cells := 0, slots := 0, locals := 0 } : Room).cells ({ frames := 0, cells := 0, slots := 0, locals := 0 } : Room).slots) (fun n v L a b q f => ⟨_, a, b, v, L, rfl, q, f⟩)
    exact ⟨t, o, castTop (ef_2 m p1) st, a, b, v, L, e1, q, fe⟩
  intro K fin
  show own_Go p e below K (s₁.setTop (mkF m 0 #[.val (.int p1)] []))
  refine own_st (fun t k => XS.iloadN X0.here hx rfl (hb hby d2_0) rfl k) ?_
  show own_Go p e below K (s₁.setTop (mkF m 1 #[.val (.int p1)] [(.int p1)]))
  by_cases hc1 : p1 < (0 : Int32)
  · refine own_st (fun t k => XS.ifYes X0.here hx rfl (pc0 := 1) (pc' := 14) rfl (hb hby d2_1) rfl ((if0 _ _).trans (tlt hc1).1) (by decide) (by decide) k) ?_
    show own_Go p e below K (s₁.setTop (mkF m 14 #[.val (.int p1)] []))
    refine own_st (fun t k => XS.iconst X0.here hx rfl (hb hby d2_14) k) ?_
    show own_Go p e below K (s₁.setTop (mkF m 15 #[.val (.int p1)] [(.int (0 : Int32))]))
    obtain ⟨fs, hr, hrun, hended, hW, hsame⟩ := X0.leave (v := some (.int (nar .boolean (0 : Int32)))) (fun h => by rw [Bd.returns] at h; cases h)
    refine ⟨_, retN X0 hx (t := .boolean) Bd.returns (by simp) (hb hby d2_15) hr, fin _ _ _ hrun hended ?_ ⟨⟨_, rfl⟩, hW, hsame.mono (by decide) (by decide)⟩⟩
    show Q2 Z p1 h0 n0 _ s₁.heap _
    rw [e0]
    exact ⟨_, rfl, (by simp only [own_hw, hc1, if_true, if_false]; first | done | rfl | decide), N0, rfl⟩
  refine own_st (fun t k => XS.ifNo X0.here hx rfl (hb hby d2_1) rfl ((if0 _ _).trans (flt hc1).1) k) ?_
  show own_Go p e below K (s₁.setTop (mkF m 4 #[.val (.int p1)] []))
  refine own_st (fun t k => XS.iloadN X0.here hx rfl (hb hby d2_4) rfl k) ?_
  show own_Go p e below K (s₁.setTop (mkF m 5 #[.val (.int p1)] [(.int p1)]))
  refine own_st (X0.ldcInt hx hown (mvT hZ (hw _ (List.mem_of_getElem? (i := 8) rfl))) (g := (mkF m 5 #[.val (.int p1)] [(.int p1)])) rfl (hb hby d2_5)) ?_
  show own_Go p e below K (s₁.setTop (mkF m 7 #[.val (.int p1)] [(.int (1048576 : Int32)), (.int p1)]))
  by_cases hc7 : p1 < (1048576 : Int32)
  · refine own_st (fun t k => XS.icmpNo X0.here hx rfl (hb hby d2_7) rfl (tlt hc7).2.1 k) ?_
    show own_Go p e below K (s₁.setTop (mkF m 10 #[.val (.int p1)] []))
    refine own_st (fun t k => XS.iconst X0.here hx rfl (hb hby d2_10) k) ?_
    show own_Go p e below K (s₁.setTop (mkF m 11 #[.val (.int p1)] [(.int (1 : Int32))]))
    refine own_st (fun t k => XS.goto X0.here hx rfl (pc0 := 11) (pc' := 15) rfl (hb hby d2_11) (by decide) (by decide) k) ?_
    show own_Go p e below K (s₁.setTop (mkF m 15 #[.val (.int p1)] [(.int (1 : Int32))]))
    obtain ⟨fs, hr, hrun, hended, hW, hsame⟩ := X0.leave (v := some (.int (nar .boolean (1 : Int32)))) (fun h => by rw [Bd.returns] at h; cases h)
    refine ⟨_, retN X0 hx (t := .boolean) Bd.returns (by simp) (hb hby d2_15) hr, fin _ _ _ hrun hended ?_ ⟨⟨_, rfl⟩, hW, hsame.mono (by decide) (by decide)⟩⟩
    show Q2 Z p1 h0 n0 _ s₁.heap _
    rw [e0]
    exact ⟨_, rfl, (by simp only [own_hw, hc1, hc7, if_true, if_false]; first | done | rfl | decide), N0, rfl⟩
  refine own_st (fun t k => XS.icmpYes X0.here hx rfl (pc0 := 7) (pc' := 14) rfl (hb hby d2_7) rfl (flt hc7).2.1 (by decide) (by decide) k) ?_
  show own_Go p e below K (s₁.setTop (mkF m 14 #[.val (.int p1)] []))
  refine own_st (fun t k => XS.iconst X0.here hx rfl (hb hby d2_14) k) ?_
  show own_Go p e below K (s₁.setTop (mkF m 15 #[.val (.int p1)] [(.int (0 : Int32))]))
  obtain ⟨fs, hr, hrun, hended, hW, hsame⟩ := X0.leave (v := some (.int (nar .boolean (0 : Int32)))) (fun h => by rw [Bd.returns] at h; cases h)
  refine ⟨_, retN X0 hx (t := .boolean) Bd.returns (by simp) (hb hby d2_15) hr, fin _ _ _ hrun hended ?_ ⟨⟨_, rfl⟩, hW, hsame.mono (by decide) (by decide)⟩⟩
  show Q2 Z p1 h0 n0 _ s₁.heap _
  rw [e0]
  exact ⟨_, rfl, (by simp only [own_hw, hc1, hc7, if_true, if_false]; first | done | rfl | decide), N0, rfl⟩
theorem pn_0 : plainName "com/example/micrologue/micrologue/MemoryHoldsBytePinLaw" = true := by first | (simp [plainName, overriddenIn]; done) | decide +kernel
theorem pd_0_0 : parseMethodDescriptor "(I)Z" = some ⟨[.int], some .boolean⟩ := by decide +kernel
theorem ef_0 (m : MethodId) (x0 : Int32) : entryFrame m #[(.int x0)] maxLocals = mkF m 0 #[.val (.int x0), .unset, .unset, .unset] [] := by first | (simp [entryFrame, mkF, argsToLocals, Value.category, maxLocals]; done) | rfl
def Q0 (Z : State) (p1 : Int32) (h0 : Heap) (n0 : Nat) (v : Option Value) (h : Heap) (L : List Loc) : Prop := v = some (.int 1) ∧ Fr n0 L
set_option maxRecDepth 65536 in
set_option maxHeartbeats 40000000 in
theorem rm0 (l : Launch) (Z : State) (a0 : Array Value) (hw : ∀ d ∈ tables_1, d.before a0 Z = true) (ws : List Jvm.Cond) (p1 : Int32) (h0 : Heap) (n0 : Nat) (Z0 : n0 ≤ h0.size)  :
    MetFree l x (head1 (Jvm.Cond.code x code maxLocals ret :: ws) room_1) (fun a U => a = #[(.int p1)] ∧ Z.Warmed39 U.vm ∧ U.heap = h0) (fun _ _ _ _ _ => True) (fun _ U o U' => ∃ v L, o = .returned v ∧ Q0 Z p1 h0 n0 v U'.heap L ∧ FrameEnd U o U' L 0 0) := by
  refine MetFree.of_bodySF (plainFor_of_name pn_0) hisR ?_
  intro p e s m args below meth c s₁ Bd hml0 hP hK
  obtain ⟨rfl, hZ, hh⟩ := hP
  have hx := Bd.exec
  have hby := Bd.bytes
  have hml : c.maxLocals = 4 := hml0
  have hown : s.vm.findClass "com/example/micrologue/micrologue/MemoryHoldsBytePinLaw" = some m.cls := findClass_of_methodNamed Bd.named
  have hnm := (name_of_methodNamed Bd.named Bd.method).1
  have X0 : Stand p l e room_1 s m #[(.int p1)] below meth c s₁ [] 0 0 := Stand.of_body Bd
  have e0 : s₁.heap = h0 := by rw [← hh, Bd.state]; rfl
  have N0 := Fr.nil n0
  suffices G0 : ∀ K : State → Prop, (∀ (n : State) (v : Option Value) (L : List Loc), n.status = .running → Ended n below (.returned v) → Q0 Z p1 h0 n0 v n.heap L → FrameEnd s (.returned v) n L 0 0 → K n) → own_Go p e below K (s₁.setTop (mkF m 0 #[.val (.int p1), .unset, .unset, .unset] [])) by
    obtain ⟨t, st, o, a, b, v, L, e1, q, fe⟩ := G0 (fun n => ∃ o, n.status = .running ∧ Ended n below o ∧ ∃ v L, o = .returned v ∧ Q0 Z p1 h0 n0 v n.heap L ∧ FrameEnd s o n L 0 0) (fun n v L a b q f => ⟨_, a, b, v, L, rfl, q, f⟩)
    exact ⟨t, o, castTop (ef_0 m p1) st, a, b, v, L, e1, q, fe⟩
  intro K fin
  show own_Go p e below K (s₁.setTop (mkF m 0 #[.val (.int p1), .unset, .unset, .unset] []))
  refine own_st (fun t k => XS.iloadN X0.here hx rfl (hb hby at_0) rfl k) ?_
  show own_Go p e below K (s₁.setTop (mkF m 1 #[.val (.int p1), .unset, .unset, .unset] [(.int p1)]))
  obtain ⟨_, _, ⟨T1, L1, k1, n1⟩, -, X1, ⟨Lc1, hQ1, l1, y1, z1⟩, st1⟩ := Jvm.LawKit.callS X0 hx (y := (⟨"com/example/micrologue/micrologue/Memory", "holdsByte", "(I)Z"⟩ : MethodName)) hown (mvT hZ (hw _ (List.mem_of_getElem? (i := 0) rfl))) (mvT hZ (hw _ (List.mem_of_getElem? (i := 1) rfl))) (mvT hZ (hw _ (List.mem_of_getElem? (i := 2) rfl))) (mvT hZ (hw _ (List.mem_of_getElem? (i := 3) rfl))) (by decide) (backOf (W := 0) (rm1 l Z a0 hw [] p1 h0 n0 Z0) hZ (hw _ (List.mem_of_getElem? (i := 3) rfl)) (hw _ (List.mem_of_getElem? (i := 2) rfl)) (by decide) (by decide)) (g := (mkF m 1 #[.val (.int p1), .unset, .unset, .unset] [(.int p1)])) rfl (by rw [hml]; rfl) (argsL := [(.int p1)]) (rest := []) (lenOf pd_0_0 rfl) rfl (by show 2 * 0 + _ ≤ _; exact Nat.le_of_eq rfl) (hb hby at_1) (fun _ _ => ⟨rfl, e0, (by decide : 0 + 0 ≤ _), (by decide : 0 + 0 ≤ _)⟩)
  dsimp only [Pt.U, Pt.locs, Pt.cells, Pt.slots] at X1 l1 y1 z1 st1 hQ1
  subst l1 y1 z1
  obtain ⟨r1, rfl, hr1, N1q, e1⟩ := hQ1
  have N1 := Fr.app N0 N1q
  refine own_st st1 ?_
  show own_Go p e below K (T1.setTop (mkF m 4 #[.val (.int p1), .unset, .unset, .unset] [(.int r1)]))
  refine own_st (fun t k => XS.istoreN X1.here hx rfl (hb hby at_4) rfl (l' := #[.val (.int p1), .val (.int r1), .unset, .unset]) rfl k) ?_
  show own_Go p e below K (T1.setTop (mkF m 5 #[.val (.int p1), .val (.int r1), .unset, .unset] []))
  refine own_st (fun t k => XS.iloadN X1.here hx rfl (hb hby at_5) rfl k) ?_
  show own_Go p e below K (T1.setTop (mkF m 6 #[.val (.int p1), .val (.int r1), .unset, .unset] [(.int p1)]))
  refine own_st (fun t k => XS.bipush X1.here hx rfl (hb hby at_6) k) ?_
  show own_Go p e below K (T1.setTop (mkF m 8 #[.val (.int p1), .val (.int r1), .unset, .unset] [(.int (22 : Int32)), (.int p1)]))
  refine own_st (fun t k => XS.iushr X1.here hx rfl (hb hby at_8) rfl k) ?_
  show own_Go p e below K (T1.setTop (mkF m 9 #[.val (.int p1), .val (.int r1), .unset, .unset] [(.int ((p1.toUInt32 >>> ((22 : Int32) &&& 31).toUInt32).toInt32))]))
  by_cases hc9 : ((p1.toUInt32 >>> ((22 : Int32) &&& 31).toUInt32).toInt32) = (0 : Int32)
  · refine own_st (fun t k => XS.ifNo X1.here hx rfl (hb hby at_9) rfl ((if0 _ _).trans (teq hc9).2) k) ?_
    show own_Go p e below K (T1.setTop (mkF m 12 #[.val (.int p1), .val (.int r1), .unset, .unset] []))
    refine own_st (fun t k => XS.iconst X1.here hx rfl (hb hby at_12) k) ?_
    show own_Go p e below K (T1.setTop (mkF m 13 #[.val (.int p1), .val (.int r1), .unset, .unset] [(.int (1 : Int32))]))
    refine own_st (fun t k => XS.goto X1.here hx rfl (pc0 := 13) (pc' := 17) rfl (hb hby at_13) (by decide) (by decide) k) ?_
    show own_Go p e below K (T1.setTop (mkF m 17 #[.val (.int p1), .val (.int r1), .unset, .unset] [(.int (1 : Int32))]))
    refine own_st (fun t k => XS.istoreN X1.here hx rfl (hb hby at_17) rfl (l' := #[.val (.int p1), .val (.int r1), .val (.int (1 : Int32)), .unset]) rfl k) ?_
    show own_Go p e below K (T1.setTop (mkF m 18 #[.val (.int p1), .val (.int r1), .val (.int (1 : Int32)), .unset] []))
    refine own_st (fun t k => XS.iloadN X1.here hx rfl (hb hby at_18) rfl k) ?_
    show own_Go p e below K (T1.setTop (mkF m 19 #[.val (.int p1), .val (.int r1), .val (.int (1 : Int32)), .unset] [(.int p1)]))
    refine own_st (fun t k => XS.iconst X1.here hx rfl (hb hby at_19) k) ?_
    show own_Go p e below K (T1.setTop (mkF m 20 #[.val (.int p1), .val (.int r1), .val (.int (1 : Int32)), .unset] [(.int (2 : Int32)), (.int p1)]))
    refine own_st (fun t k => XS.ishr X1.here hx rfl (hb hby at_20) rfl k) ?_
    show own_Go p e below K (T1.setTop (mkF m 21 #[.val (.int p1), .val (.int r1), .val (.int (1 : Int32)), .unset] [(.int (p1 >>> ((2 : Int32) &&& 31)))]))
    obtain ⟨_, _, ⟨T2, L2, k2, n2⟩, -, X2, ⟨Lc2, hQ2, l2, y2, z2⟩, st2⟩ := Jvm.LawKit.callS X1 hx (y := (⟨"com/example/micrologue/micrologue/Memory", "holdsWord", "(I)Z"⟩ : MethodName)) hown (mvT hZ (hw _ (List.mem_of_getElem? (i := 5) rfl))) (mvT hZ (hw _ (List.mem_of_getElem? (i := 6) rfl))) (mvT hZ (hw _ (List.mem_of_getElem? (i := 2) rfl))) (mvT hZ (hw _ (List.mem_of_getElem? (i := 7) rfl))) (by decide) (backOf (W := 0) (rm2 l Z a0 hw [] (p1 >>> ((2 : Int32) &&& 31)) h0 n0 Z0) hZ (hw _ (List.mem_of_getElem? (i := 7) rfl)) (hw _ (List.mem_of_getElem? (i := 2) rfl)) (by decide) (by decide)) (g := (mkF m 21 #[.val (.int p1), .val (.int r1), .val (.int (1 : Int32)), .unset] [(.int (p1 >>> ((2 : Int32) &&& 31)))])) rfl (by rw [hml]; rfl) (argsL := [(.int (p1 >>> ((2 : Int32) &&& 31)))]) (rest := []) (lenOf pd_0_0 rfl) rfl (by show 2 * 0 + _ ≤ _; exact Nat.le_of_eq rfl) (hb hby at_21) (fun _ _ => ⟨rfl, e1, (by decide : 0 + 0 ≤ _), (by decide : 0 + 0 ≤ _)⟩)
    dsimp only [Pt.U, Pt.locs, Pt.cells, Pt.slots] at X2 l2 y2 z2 st2 hQ2
    subst l2 y2 z2
    obtain ⟨r2, rfl, hr2, N2q, e2⟩ := hQ2
    have N2 := Fr.app N1 N2q
    refine own_st st2 ?_
    show own_Go p e below K (T2.setTop (mkF m 24 #[.val (.int p1), .val (.int r1), .val (.int (1 : Int32)), .unset] [(.int r2)]))
    refine own_st (fun t k => XS.istoreN X2.here hx rfl (hb hby at_24) rfl (l' := #[.val (.int p1), .val (.int r1), .val (.int (1 : Int32)), .val (.int r2)]) rfl k) ?_
    show own_Go p e below K (T2.setTop (mkF m 25 #[.val (.int p1), .val (.int r1), .val (.int (1 : Int32)), .val (.int r2)] []))
    refine own_st (fun t k => XS.iloadN X2.here hx rfl (hb hby at_25) rfl k) ?_
    show own_Go p e below K (T2.setTop (mkF m 26 #[.val (.int p1), .val (.int r1), .val (.int (1 : Int32)), .val (.int r2)] [(.int r1)]))
    refine own_st (fun t k => XS.iloadN X2.here hx rfl (hb hby at_26) rfl k) ?_
    show own_Go p e below K (T2.setTop (mkF m 27 #[.val (.int p1), .val (.int r1), .val (.int (1 : Int32)), .val (.int r2)] [(.int (1 : Int32)), (.int r1)]))
    refine own_st (fun t k => XS.icmpNo X2.here hx rfl (hb hby at_27) rfl (teq (hr1.trans (own_l1 hc9) : r1 = (1 : Int32))).2 k) ?_
    show own_Go p e below K (T2.setTop (mkF m 30 #[.val (.int p1), .val (.int r1), .val (.int (1 : Int32)), .val (.int r2)] []))
    refine own_st (fun t k => XS.iloadN X2.here hx rfl (hb hby at_30) rfl k) ?_
    show own_Go p e below K (T2.setTop (mkF m 31 #[.val (.int p1), .val (.int r1), .val (.int (1 : Int32)), .val (.int r2)] [(.int r1)]))
    refine own_st (fun t k => XS.iloadN X2.here hx rfl (hb hby at_31) rfl k) ?_
    show own_Go p e below K (T2.setTop (mkF m 32 #[.val (.int p1), .val (.int r1), .val (.int (1 : Int32)), .val (.int r2)] [(.int r2), (.int r1)]))
    refine own_st (fun t k => XS.icmpNo X2.here hx rfl (hb hby at_32) rfl (teq (hr1.trans ((own_l2 p1).trans hr2.symm) : r1 = r2)).2 k) ?_
    show own_Go p e below K (T2.setTop (mkF m 35 #[.val (.int p1), .val (.int r1), .val (.int (1 : Int32)), .val (.int r2)] []))
    refine own_st (fun t k => XS.iconst X2.here hx rfl (hb hby at_35) k) ?_
    show own_Go p e below K (T2.setTop (mkF m 36 #[.val (.int p1), .val (.int r1), .val (.int (1 : Int32)), .val (.int r2)] [(.int (1 : Int32))]))
    refine own_st (fun t k => XS.goto X2.here hx rfl (pc0 := 36) (pc' := 40) rfl (hb hby at_36) (by decide) (by decide) k) ?_
    show own_Go p e below K (T2.setTop (mkF m 40 #[.val (.int p1), .val (.int r1), .val (.int (1 : Int32)), .val (.int r2)] [(.int (1 : Int32))]))
    obtain ⟨fs, hr, hrun, hended, hW, hsame⟩ := X2.leave (v := some (.int (nar .boolean (1 : Int32)))) (fun h => by rw [Bd.returns] at h; cases h)
    refine ⟨_, retN X2 hx (t := .boolean) Bd.returns (by simp) (hb hby at_40) hr, fin _ _ _ hrun hended ?_ ⟨⟨_, rfl⟩, hW, hsame.mono (by decide) (by decide)⟩⟩
    show Q0 Z p1 h0 n0 _ T2.heap _
    rw [e2]
    exact ⟨rfl, N2⟩
  refine own_st (fun t k => XS.ifYes X1.here hx rfl (pc0 := 9) (pc' := 16) rfl (hb hby at_9) rfl ((if0 _ _).trans (feq hc9).2) (by decide) (by decide) k) ?_
  show own_Go p e below K (T1.setTop (mkF m 16 #[.val (.int p1), .val (.int r1), .unset, .unset] []))
  refine own_st (fun t k => XS.iconst X1.here hx rfl (hb hby at_16) k) ?_
  show own_Go p e below K (T1.setTop (mkF m 17 #[.val (.int p1), .val (.int r1), .unset, .unset] [(.int (0 : Int32))]))
  refine own_st (fun t k => XS.istoreN X1.here hx rfl (hb hby at_17) rfl (l' := #[.val (.int p1), .val (.int r1), .val (.int (0 : Int32)), .unset]) rfl k) ?_
  show own_Go p e below K (T1.setTop (mkF m 18 #[.val (.int p1), .val (.int r1), .val (.int (0 : Int32)), .unset] []))
  refine own_st (fun t k => XS.iloadN X1.here hx rfl (hb hby at_18) rfl k) ?_
  show own_Go p e below K (T1.setTop (mkF m 19 #[.val (.int p1), .val (.int r1), .val (.int (0 : Int32)), .unset] [(.int p1)]))
  refine own_st (fun t k => XS.iconst X1.here hx rfl (hb hby at_19) k) ?_
  show own_Go p e below K (T1.setTop (mkF m 20 #[.val (.int p1), .val (.int r1), .val (.int (0 : Int32)), .unset] [(.int (2 : Int32)), (.int p1)]))
  refine own_st (fun t k => XS.ishr X1.here hx rfl (hb hby at_20) rfl k) ?_
  show own_Go p e below K (T1.setTop (mkF m 21 #[.val (.int p1), .val (.int r1), .val (.int (0 : Int32)), .unset] [(.int (p1 >>> ((2 : Int32) &&& 31)))]))
  obtain ⟨_, _, ⟨T3, L3, k3, n3⟩, -, X3, ⟨Lc3, hQ3, l3, y3, z3⟩, st3⟩ := Jvm.LawKit.callS X1 hx (y := (⟨"com/example/micrologue/micrologue/Memory", "holdsWord", "(I)Z"⟩ : MethodName)) hown (mvT hZ (hw _ (List.mem_of_getElem? (i := 5) rfl))) (mvT hZ (hw _ (List.mem_of_getElem? (i := 6) rfl))) (mvT hZ (hw _ (List.mem_of_getElem? (i := 2) rfl))) (mvT hZ (hw _ (List.mem_of_getElem? (i := 7) rfl))) (by decide) (backOf (W := 0) (rm2 l Z a0 hw [] (p1 >>> ((2 : Int32) &&& 31)) h0 n0 Z0) hZ (hw _ (List.mem_of_getElem? (i := 7) rfl)) (hw _ (List.mem_of_getElem? (i := 2) rfl)) (by decide) (by decide)) (g := (mkF m 21 #[.val (.int p1), .val (.int r1), .val (.int (0 : Int32)), .unset] [(.int (p1 >>> ((2 : Int32) &&& 31)))])) rfl (by rw [hml]; rfl) (argsL := [(.int (p1 >>> ((2 : Int32) &&& 31)))]) (rest := []) (lenOf pd_0_0 rfl) rfl (by show 2 * 0 + _ ≤ _; exact Nat.le_of_eq rfl) (hb hby at_21) (fun _ _ => ⟨rfl, e1, (by decide : 0 + 0 ≤ _), (by decide : 0 + 0 ≤ _)⟩)
  dsimp only [Pt.U, Pt.locs, Pt.cells, Pt.slots] at X3 l3 y3 z3 st3 hQ3
  subst l3 y3 z3
  obtain ⟨r3, rfl, hr3, N3q, e3⟩ := hQ3
  have N3 := Fr.app N1 N3q
  refine own_st st3 ?_
  show own_Go p e below K (T3.setTop (mkF m 24 #[.val (.int p1), .val (.int r1), .val (.int (0 : Int32)), .unset] [(.int r3)]))
  refine own_st (fun t k => XS.istoreN X3.here hx rfl (hb hby at_24) rfl (l' := #[.val (.int p1), .val (.int r1), .val (.int (0 : Int32)), .val (.int r3)]) rfl k) ?_
  show own_Go p e below K (T3.setTop (mkF m 25 #[.val (.int p1), .val (.int r1), .val (.int (0 : Int32)), .val (.int r3)] []))
  refine own_st (fun t k => XS.iloadN X3.here hx rfl (hb hby at_25) rfl k) ?_
  show own_Go p e below K (T3.setTop (mkF m 26 #[.val (.int p1), .val (.int r1), .val (.int (0 : Int32)), .val (.int r3)] [(.int r1)]))
  refine own_st (fun t k => XS.iloadN X3.here hx rfl (hb hby at_26) rfl k) ?_
  show own_Go p e below K (T3.setTop (mkF m 27 #[.val (.int p1), .val (.int r1), .val (.int (0 : Int32)), .val (.int r3)] [(.int (0 : Int32)), (.int r1)]))
  refine own_st (fun t k => XS.icmpNo X3.here hx rfl (hb hby at_27) rfl (teq (hr1.trans (own_l0 hc9) : r1 = (0 : Int32))).2 k) ?_
  show own_Go p e below K (T3.setTop (mkF m 30 #[.val (.int p1), .val (.int r1), .val (.int (0 : Int32)), .val (.int r3)] []))
  refine own_st (fun t k => XS.iloadN X3.here hx rfl (hb hby at_30) rfl k) ?_
  show own_Go p e below K (T3.setTop (mkF m 31 #[.val (.int p1), .val (.int r1), .val (.int (0 : Int32)), .val (.int r3)] [(.int r1)]))
  refine own_st (fun t k => XS.iloadN X3.here hx rfl (hb hby at_31) rfl k) ?_
  show own_Go p e below K (T3.setTop (mkF m 32 #[.val (.int p1), .val (.int r1), .val (.int (0 : Int32)), .val (.int r3)] [(.int r3), (.int r1)]))
  refine own_st (fun t k => XS.icmpNo X3.here hx rfl (hb hby at_32) rfl (teq (hr1.trans ((own_l2 p1).trans hr3.symm) : r1 = r3)).2 k) ?_
  show own_Go p e below K (T3.setTop (mkF m 35 #[.val (.int p1), .val (.int r1), .val (.int (0 : Int32)), .val (.int r3)] []))
  refine own_st (fun t k => XS.iconst X3.here hx rfl (hb hby at_35) k) ?_
  show own_Go p e below K (T3.setTop (mkF m 36 #[.val (.int p1), .val (.int r1), .val (.int (0 : Int32)), .val (.int r3)] [(.int (1 : Int32))]))
  refine own_st (fun t k => XS.goto X3.here hx rfl (pc0 := 36) (pc' := 40) rfl (hb hby at_36) (by decide) (by decide) k) ?_
  show own_Go p e below K (T3.setTop (mkF m 40 #[.val (.int p1), .val (.int r1), .val (.int (0 : Int32)), .val (.int r3)] [(.int (1 : Int32))]))
  obtain ⟨fs, hr, hrun, hended, hW, hsame⟩ := X3.leave (v := some (.int (nar .boolean (1 : Int32)))) (fun h => by rw [Bd.returns] at h; cases h)
  refine ⟨_, retN X3 hx (t := .boolean) Bd.returns (by simp) (hb hby at_40) hr, fin _ _ _ hrun hended ?_ ⟨⟨_, rfl⟩, hW, hsame.mono (by decide) (by decide)⟩⟩
  show Q0 Z p1 h0 n0 _ T3.heap _
  rw [e3]
  exact ⟨rfl, N3⟩
set_option maxRecDepth 65536 in
set_option maxHeartbeats 40000000 in
theorem comes_1 {Post : Tables → Env → Array Value → State → Outcome → State → Prop} (hpost : ∀ tb e args s v u, (limb_1_1.after args s (.returned v) u = true ∧ limb_1_2.after args s (.returned v) u = true ∧ True) → FrameEnd s (.returned v) u (Jvm.fieldLocs frame_1_writes args s ++ Jvm.arrayLocs frame_1_arrays args s ++ Jvm.staticLocs frame_1_statics s) 0 0 → Post tb e args s (.returned v) u) :
    ArmFor flags0 classFile x code maxLocals ret World_1 tables_1 room_1 Calls_1 rest_1 Pre_1 Post := by
  intro l hfl _ _ p e ha hc hk s m args below hf hA hF happ hP
  obtain ⟨hcalls, hrest, hpre⟩ := hP
  obtain ⟨-, -, -, hnamed, -, -, -, hat⟩ := (Spec.applies_iff hf).mp happ
  obtain ⟨hg, hn⟩ := and_e (Cond.before_iff.mp (show (Jvm.Cond.and given_1 narrow_1).before args s = true from hpre))
  obtain ⟨g1, g2⟩ := and_e hg
  obtain ⟨w0, rfl⟩ : ∃ w0 : Value, args = #[w0] := by
    have hs : args.size = 1 := by simpa [Cond.value, given_1] using g1
    obtain ⟨L⟩ := args
    match L, hs with
    | [w0], _ => exact ⟨w0, rfl⟩
  have hw := fun d (hd : d ∈ tables_1) => atoms_spec (ws := Jvm.Cond.code x code maxLocals ret :: tables_1) hat d (List.mem_cons_of_mem _ hd)
  have hfit : Fit s := fun {y c} hc i hi => by
    obtain ⟨ha, rfl⟩ := Array.getElem?_eq_some_iff.mp hc
    have q := List.all_eq_true.mp ((Array.all_eq_true_iff_forall_mem.mp hF) _ (Array.getElem_mem ha)) i (List.mem_range.mpr hi)
    simpa [Array.getElem?_eq_getElem hi] using q
  obtain ⟨i0, ei0⟩ := is_v g2
  obtain rfl : w0 = (.int i0) := Option.some.inj ei0
  obtain ⟨n, o, h1, h2, h3, _, L, rfl, ⟨rfl, N⟩, hq⟩ := rm0 l s _ hw tables_1 i0 s.heap s.heap.size (Nat.le_refl _) p e ha hc hk s m _ below hf ((Spec.applies_iff_loose hf).mp happ).1 ⟨rfl, State.Warmed39.refl s, rfl⟩ trivial
  refine ⟨n, _, h1, h2, h3, hpost _ _ _ _ _ _ ⟨Cond.after_iff.mpr rfl, Cond.after_iff.mpr (eq_i res_at (Term.int_eval (1)) rfl), trivial⟩ ⟨hq.1, hq.2.1, (hq.2.2.sift fun y hy => Or.inr (N y hy)).mono (by decide) (by decide)⟩⟩
theorem main_1_1 : Claimed_1_1 := comes_1 fun _ _ _ _ _ _ h hF => ⟨h.1, hF⟩
theorem main_1_2 : Claimed_1_2 := comes_1 fun _ _ _ _ _ _ h hF => ⟨h.2.1, hF⟩
end Jvm.Pilot.@@N@@
namespace Jvm.Pilot.@@N@@
open Jvm Jvm.ClassFile Sem Op Lib Jvm.Free Jvm.Stand Jvm.Pilot.@@N@@.Jvm.D
/-! MADE BY PROGRAM (witnessworld.py) out of the Statement's table words and the real class files: 9 classes; the members and pool entries that the words name. The judged class is class 1, her method 1. -/
namespace start1
open Jvm.ClassFile
def u (s : String) : CpInfo := .utf8 (stringToUtf16 s)
/-- a pool by its gaps: so many unusable entries, then the entry; so many at the end -/
def gap : Nat → List CpInfo → List CpInfo
  | 0, r => r
  | n + 1, r => .unusable :: gap n r
def poolList (es : List (Nat × CpInfo)) (last : Nat) : List CpInfo := es.foldr (fun e r => gap e.1 (e.2 :: r)) (gap last [])
def pool (es : List (Nat × CpInfo)) (last : Nat) : Array CpInfo := ⟨poolList es last⟩
def fileOf (pool : Array CpInfo) (this : Nat) (attrs : Array Attribute := #[]) (ms : Array MethodInfo := #[]) (fl : Nat := 33) (sup : Nat := 0) (ifs : Array Nat := #[]) (fds : Array FieldInfo := #[]) : ClassFile where
  minorVersion := 0
  majorVersion := 65
  constantPool := pool
  accessFlags := fl
  thisClass := this
  superClass := sup
  interfaces := ifs
  fields := fds
  methods := ms
  attributes := attrs
def plain (name : String) (sup : Option ClassId) : Class where
  name := name
  kind := .ordinary
  loader := none
  accessFlags := 33
  super := sup
  interfaces := #[]
  cf := none
  fields := #[]
  methods := #[]
  instanceTypes := #[]
  staticTypes := #[]
  resolved := #[]
  callSites := []
  init := .initialized
  statics := none
  mirror := none

def pool0 : Array CpInfo := pool [(5, u "<init>"), (0, u "()V"), (1, .class_ 10), (1, u "java/lang/Object")] 113

def k0m0 : Method := { name := "<init>", desc := "()V", sig := { parameters := [], returnType := none }, accessFlags := 1, code := none }
/-- java/lang/Object -/
def k0 : Class := { plain "java/lang/Object" none with
  accessFlags := 33
  interfaces := #[]
  cf := some (fileOf pool0 8 #[] #[{ accessFlags := 1, nameIndex := 5, descriptorIndex := 6, attributes := #[] }] 33 0 #[] #[])
  fields := #[]
  methods := #[k0m0]
  instanceTypes := #[]
  staticTypes := #[]
  resolved := Array.replicate 124 none
  statics := none }

def pool1 : Array CpInfo := pool [(2, .class_ 4), (1, u "java/lang/Object"), (0, u "<init>"), (0, u "()V"), (0, .methodref 8 9), (0, .class_ 10), (0, .nameAndType 11 12), (0, u "com/example/micrologue/micrologue/Memory"), (0, u "holdsByte"), (0, u "(I)Z"), (0, .methodref 8 14), (0, .nameAndType 15 12), (0, u "holdsWord"), (0, .class_ 17), (0, u "com/example/micrologue/micrologue/MemoryHoldsBytePinLaw"), (2, u "law")] 3

def k1m0 : Method := { name := "<init>", desc := "()V", sig := { parameters := [], returnType := none }, accessFlags := 1, code := none }
def k1c1 : Code := { maxStack := 2, maxLocals := 4, code := code, exceptionTable := #[], attributes := #[] }
def k1m1 : Method := { name := "law", desc := "(I)Z", sig := { parameters := [.int], returnType := some .boolean }, accessFlags := 9, code := some k1c1 }
/-- com/example/micrologue/micrologue/MemoryHoldsBytePinLaw -/
def k1 : Class := { plain "com/example/micrologue/micrologue/MemoryHoldsBytePinLaw" (some 0) with
  accessFlags := 49
  interfaces := #[]
  cf := some (fileOf pool1 16 #[] #[{ accessFlags := 1, nameIndex := 5, descriptorIndex := 6, attributes := #[] }, { accessFlags := 9, nameIndex := 20, descriptorIndex := 12, attributes := #[] }] 49 2 #[] #[])
  fields := #[]
  methods := #[k1m0, k1m1]
  instanceTypes := #[]
  staticTypes := #[]
  resolved := Array.replicate 24 none
  statics := none }

def pool2 : Array CpInfo := pool [(1, .class_ 2), (0, u "com/example/micrologue/micrologue/Memory"), (1, .class_ 6), (1, u "java/lang/Object"), (0, u "<init>"), (0, u "()V"), (0, .integer 1048576), (2, u "words"), (0, u "[I"), (0, .integer 4194304), (4, u "WORDS"), (0, u "I"), (1, u "BYTES"), (2, u "holdsWord"), (0, u "(I)Z"), (1, u "holdsByte")] 7

def k2m0 : Method := { name := "<init>", desc := "()V", sig := { parameters := [], returnType := none }, accessFlags := 1, code := none }
def k2c1 : Code := { maxStack := 2, maxLocals := 1, code := prog_63_method_2_code, exceptionTable := #[], attributes := #[] }
def k2m1 : Method := { name := "holdsWord", desc := "(I)Z", sig := { parameters := [.int], returnType := some .boolean }, accessFlags := 9, code := some k2c1 }
def k2c2 : Code := { maxStack := 2, maxLocals := 1, code := prog_63_method_3_code, exceptionTable := #[], attributes := #[] }
def k2m2 : Method := { name := "holdsByte", desc := "(I)Z", sig := { parameters := [.int], returnType := some .boolean }, accessFlags := 9, code := some k2c2 }
/-- com/example/micrologue/micrologue/Memory -/
def k2 : Class := { plain "com/example/micrologue/micrologue/Memory" (some 0) with
  accessFlags := 49
  interfaces := #[]
  cf := some (fileOf pool2 1 #[] #[{ accessFlags := 1, nameIndex := 7, descriptorIndex := 8, attributes := #[] }, { accessFlags := 9, nameIndex := 25, descriptorIndex := 26, attributes := #[] }, { accessFlags := 9, nameIndex := 28, descriptorIndex := 26, attributes := #[] }] 49 4 #[] #[{ accessFlags := 25, nameIndex := 19, descriptorIndex := 20, attributes := #[] }, { accessFlags := 25, nameIndex := 22, descriptorIndex := 20, attributes := #[] }, { accessFlags := 18, nameIndex := 12, descriptorIndex := 13, attributes := #[] }])
  fields := #[{ name := "WORDS", type := .int, accessFlags := 25, slot := 0, constantValue := 0 }, { name := "BYTES", type := .int, accessFlags := 25, slot := 1, constantValue := 0 }, { name := "words", type := (.array .int), accessFlags := 18, slot := 0, constantValue := 0 }]
  methods := #[k2m0, k2m1, k2m2]
  instanceTypes := #[(.array .int)]
  staticTypes := #[.int, .int]
  resolved := Array.replicate 36 none
  statics := none }

def pool3 : Array CpInfo := pool [(1, u "java/lang/Cloneable"), (0, .class_ 1), (0, u "java/lang/Object"), (0, .class_ 3)] 3

/-- java/lang/Cloneable -/
def k3 : Class := { plain "java/lang/Cloneable" (some 0) with
  accessFlags := 1537
  interfaces := #[]
  cf := some (fileOf pool3 2 #[] #[] 1537 4 #[] #[])
  fields := #[]
  methods := #[]
  instanceTypes := #[]
  staticTypes := #[]
  resolved := Array.replicate 8 none
  statics := none }

def pool4 : Array CpInfo := pool [(1, u "java/io/Serializable"), (0, .class_ 1), (0, u "java/lang/Object"), (0, .class_ 3)] 3

/-- java/io/Serializable -/
def k4 : Class := { plain "java/io/Serializable" (some 0) with
  accessFlags := 1537
  interfaces := #[]
  cf := some (fileOf pool4 2 #[] #[] 1537 4 #[] #[])
  fields := #[]
  methods := #[]
  instanceTypes := #[]
  staticTypes := #[]
  resolved := Array.replicate 8 none
  statics := none }

/-- the primitive byte -/
def k5 : Class := { plain "byte" none with kind := .primitive 'B', accessFlags := 0x411 }
/-- [B -/
def k6 : Class := { plain "[B" (some 0) with kind := .array 5 .byte, interfaces := #[3, 4], accessFlags := 1041 }

/-- the primitive int -/
def k7 : Class := { plain "int" none with kind := .primitive 'I', accessFlags := 0x411 }
/-- [I -/
def k8 : Class := { plain "[I" (some 0) with kind := .array 7 .int, interfaces := #[3, 4], accessFlags := 1041 }

def heap : Heap := #[]
def classes : Array Class := #[k0, k1, k2, k3, k4, k5, k6, k7, k8]
def interned : List (Array UInt16 × Addr) := []
def slotsUsed : Nat := 0
def theMethod : MethodId := ⟨1, 1⟩
def args0 : Array Value := #[.int 5]
def aboutOver (below : List Frame) : State where
  vm := { classes := classes, interned := interned.toArray }
  heap := heap
  slotsUsed := slotsUsed
  threads := #[{ frames := .invoking theMethod args0 :: below }]
def below0 : List Frame := [.native { method := ⟨0, 0⟩, args := #[] }]
def about1 : State := aboutOver below0
def p0 : Program := .bare "" "" ""
def e0 : Env := launch0.env 0 0 0
theorem w_frames : about1.frames = Frame.invoking theMethod args0 :: below0 := rfl
set_option maxRecDepth 65536 in
theorem w_args : argsFit about1.vm theMethod args0 = true := by decide +kernel
set_option maxRecDepth 65536 in
theorem w_heap : heapFits about1 = true := by decide +kernel
set_option maxRecDepth 65536 in
theorem w_runnable : about1.curStatus? = some .runnable := by decide +kernel
set_option maxRecDepth 65536 in
theorem w_alone : about1.alone = true := by decide +kernel
set_option maxRecDepth 65536 in
theorem w_named : about1.methodNamed? x = some theMethod := by decide +kernel
set_option maxRecDepth 65536 in
theorem w_hears : about1.hears theMethod below0 = true := by decide +kernel
set_option maxRecDepth 65536 in
theorem w_ripe : about1.ripe theMethod args0 below0 = true := by decide +kernel
theorem w_running : about1.status = .running := rfl
set_option maxRecDepth 65536 in
theorem w_room : about1.hasRoom e0.platform room_1 = true :=
  launch0.hasRoom_least _ room_1 (by decide +kernel) (by decide +kernel) (by decide +kernel) (by decide +kernel) (by decide +kernel) (by decide +kernel)
theorem allAtoms_all (ts : List Jvm.Cond) (a : Array Jvm.Value) (st : Jvm.State) : (allAtoms ts).before a st = ts.all (fun c => c.before a st) := by
  induction ts with
  | nil => rfl
  | cons c t ih =>
    show (Jvm.Cond.and c (allAtoms t)).before a st = _
    rw [Jvm.Cond.before_and, ih, List.all_cons]
def words1 : List Jvm.Cond := Jvm.Cond.code x code maxLocals ret :: tables_1
/-- a 'code' word, met by the world's own term for the bytes: nothing is compared byte by byte -/
theorem code_word {y : MethodName} {bytes : ByteArray} {mx : Nat} {rt : Option FieldType} {a : Array Value} {s : State} {m : MethodId} {meth : Method} {c : Code} (h1 : s.methodNamed? y = some m) (h2 : s.vm.method? m = some meth) (h3 : meth.code = some c) (h4 : c.code = bytes)
    (h5 : (c.maxLocals == mx && c.exceptionTable.isEmpty && decide (c.maxStack ≤ mostOperands) && decide (meth.sig.returnType = rt) && !meth.locks && decide (parseMethodDescriptor y.desc = some meth.sig)) = true) : (Jvm.Cond.code y bytes mx rt).before a s = true := by
  simp only [Bool.and_eq_true, beq_iff_eq, Bool.not_eq_true', decide_eq_true_eq] at h5
  obtain ⟨⟨⟨⟨⟨g1, g2⟩, g3⟩, g4⟩, g5⟩, g6⟩ := h5
  simp [Cond.before, Cond.holds, Cond.value, h1, h2, h3, h4, g1, g2, g3, g4, g5, g6]
def isCode : Jvm.Cond → Bool
  | .code _ _ _ _ => true
  | _ => false
theorem all_split {L : List Jvm.Cond} {P : Jvm.Cond → Bool} (h1 : L.all (fun c => isCode c || P c) = true) (h2 : ∀ c ∈ L.filter isCode, P c = true) : L.all P = true := by
  refine List.all_eq_true.mpr fun c hc => ?_
  have h := List.all_eq_true.mp h1 c hc
  rcases Bool.eq_false_or_eq_true (isCode c) with hi | hi
  · exact h2 c (List.mem_filter.mpr ⟨hc, hi⟩)
  · simpa [hi] using h
set_option maxRecDepth 65536 in
theorem w_c0 : (Jvm.Cond.code x code maxLocals ret).before args0 about1 = true := code_word (m := ⟨1, 1⟩) (meth := k1m1) (c := k1c1) (by decide +kernel) rfl rfl rfl (by decide +kernel)
set_option maxRecDepth 65536 in
theorem w_c1 : (Jvm.Cond.code ({ cls := "com/example/micrologue/micrologue/Memory", name := "holdsByte", desc := "(I)Z" } : Jvm.MethodName) prog_63_method_3_code (1 : Nat) (Option.some Jvm.ClassFile.FieldType.boolean)).before args0 about1 = true := code_word (m := ⟨2, 2⟩) (meth := k2m2) (c := k2c2) (by decide +kernel) rfl rfl rfl (by decide +kernel)
set_option maxRecDepth 65536 in
theorem w_c2 : (Jvm.Cond.code ({ cls := "com/example/micrologue/micrologue/Memory", name := "holdsWord", desc := "(I)Z" } : Jvm.MethodName) prog_63_method_2_code (1 : Nat) (Option.some Jvm.ClassFile.FieldType.boolean)).before args0 about1 = true := code_word (m := ⟨2, 1⟩) (meth := k2m1) (c := k2c1) (by decide +kernel) rfl rfl rfl (by decide +kernel)
def codes1 : List Jvm.Cond := [Jvm.Cond.code x code maxLocals ret, Jvm.Cond.code ({ cls := "com/example/micrologue/micrologue/Memory", name := "holdsByte", desc := "(I)Z" } : Jvm.MethodName) prog_63_method_3_code (1 : Nat) (Option.some Jvm.ClassFile.FieldType.boolean), Jvm.Cond.code ({ cls := "com/example/micrologue/micrologue/Memory", name := "holdsWord", desc := "(I)Z" } : Jvm.MethodName) prog_63_method_2_code (1 : Nat) (Option.some Jvm.ClassFile.FieldType.boolean)]
set_option maxRecDepth 65536 in
theorem codes_eq : words1.filter isCode = codes1 := rfl
theorem w_codes : ∀ c ∈ words1.filter isCode, c.before args0 about1 = true := by
  rw [codes_eq]
  intro c hc
  simp only [codes1, List.mem_cons, List.not_mem_nil, or_false] at hc
  rcases hc with rfl | rfl | rfl
  · exact w_c0
  · exact w_c1
  · exact w_c2
set_option maxRecDepth 65536 in
theorem w_t1 : words1.all (fun c => isCode c || c.before args0 about1) = true := by decide +kernel
theorem w_tables : (allAtoms (Jvm.Cond.code x code maxLocals ret :: tables_1)).before args0 about1 = true := by
  rw [allAtoms_all]
  show words1.all (fun c => c.before args0 about1) = true
  refine all_split ?_ w_codes
  rw [w_t1]
set_option maxRecDepth 65536 in
theorem w_case : (Jvm.Cond.and given_1 narrow_1).before args0 about1 = true := by decide +kernel
theorem w_applies : (headSpec (Jvm.Cond.code x code maxLocals ret :: tables_1) room_1).applies x e0.platform about1 = true :=
  (Spec.applies_iff w_frames).mpr ⟨w_running, w_runnable, w_alone, w_named, w_hears, w_ripe, w_room, w_tables⟩
theorem atStart : AtStart classFile x code maxLocals ret World_1 tables_1 room_1 Calls_1 rest_1 Pre_1 launch0 p0 e0 about1 theMethod args0 below0 :=
  ⟨lists_1, trivial, launch0.admits_env _ _ _, launch0.least_env, fairChoices_fair.cas, fairChoices_fair.clock, w_frames, w_args, w_heap, w_applies, trivial, trivial, w_case⟩
end start1
theorem witness_1 : WitnessClaimed_1 := ⟨start1.p0, start1.e0, start1.about1, start1.theMethod, start1.args0, start1.below0, start1.atStart⟩
end Jvm.Pilot.@@N@@
