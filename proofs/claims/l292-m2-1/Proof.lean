import JvmDerived
import JvmDerived.Pilot.@@N@@Statement
import JvmDerived.Pilot.@@N@@Code
set_option linter.unusedVariables false
set_option linter.unusedSimpArgs false
namespace Jvm.RoadKit
open Sem ClassFile Op Lib Jvm.Stand Jvm.Free Jvm.LawKit
section New
variable {p : Program} {l : Launch} {e : Env} {R : Room} {s : State} {m : MethodId} {args : Array Value} {below : List Frame} {meth : Method} {c : Code} {T : State} {locs : List Loc} {cells slots : Nat}
theorem retI (X : Stand p l e R s m args below meth c T locs cells slots) (hx : p.tables.exec = Jvm.exec) {pc : Nat} {Ls : Array Slot} {z : Int32} {rest : List Value} (hret : meth.sig.returnType = some .int) (hd : decode c.code pc = .ok (.ireturn, 1)) {fs : List Frame}
    (hl : ∀ (f : JFrame) (acts : List Action), f.method = m → f.locked = none → f.entered = [] → (doReturn e (T.setTop f) acts (some (.int z))).1 = T.setFrames fs) : Steps p.tables e below (T.setTop (mkF m pc Ls (.int z :: rest))) (T.setFrames fs) := by
  have hm' : T.vm.method? m = some meth := X.method'
  have hn : narrow .int (.int z) = .int z := rfl
  show Steps p.tables e below (T.setTop { method := m, pc := pc, locals := Ls, stack := _ :: rest, locked := none }) _
  jvm_step X.here [X.here.top, hx, hd, hm', hret, hn]
  first | (intro acts; rw [hl _ acts rfl rfl rfl]) | rw [hl _ _ rfl rfl rfl]
  exact Steps.refl _
end New
end Jvm.RoadKit
namespace Jvm.Pilot.@@N@@
open Jvm Jvm.ClassFile Sem Op Lib Jvm.Free Jvm.Stand Jvm.LawKit Jvm.RoadKit Bundle Jvm.Pilot.@@N@@.Jvm.D
/-- from the state T the run comes to a state of which K holds -/
def own_Go (p : Program) (e : Env) (below : List Frame) (K : State → Prop) (T : State) : Prop := ∃ t, Steps p.tables e below T t ∧ K t
theorem own_st {p : Program} {e : Env} {below : List Frame} {K : State → Prop} {T T' : State} (h : ∀ t, Steps p.tables e below T' t → Steps p.tables e below T t) (g : own_Go p e below K T') : own_Go p e below K T := by
  obtain ⟨t, a, b⟩ := g; exact ⟨t, h t a, b⟩
theorem own_tr {p : Program} {e : Env} {below : List Frame} {K : State → Prop} {T T' : State} (h : Steps p.tables e below T T') (g : own_Go p e below K T') : own_Go p e below K T := by
  obtain ⟨t, a, b⟩ := g; exact ⟨t, h.trans a, b⟩
theorem own_lrem {tb : Tables} [Ours tb] {e : Env} {below : List Frame} {T target : State} {m : MethodId} {c : Code} {g : JFrame} (h : At T m c below) (hx : tb.exec = Jvm.exec) (hg : g.method = m) {x y : Int64} {rest : List Value} (hd : decode c.code g.pc = .ok (.lrem, 1)) (hs : g.stack = .long y :: .long x :: rest) (hy : y ≠ 0)
    (hr : Steps tb e below (T.setTop { g with pc := g.pc + 1, stack := .long (x % y) :: rest }) target) : Steps tb e below (T.setTop g) target := by
  have q : x - x / y * y = x % y := lrem_mod x y
  exact XS.lrem h hx hg hd hs hy (by rw [q]; exact hr)
/-- a boolean's worth: 1 where P holds, 0 where it doesn't -/
def own_B (P : Prop) (r : Int32) : Prop := (r = 1 ∧ P) ∨ (r = 0 ∧ ¬ P)
theorem own_B.yes {P : Prop} {r : Int32} (e : r = 1) (h : P) : own_B P r := Or.inl ⟨e, h⟩
theorem own_B.no {P : Prop} {r : Int32} (e : r = 0) (h : ¬ P) : own_B P r := Or.inr ⟨e, h⟩
theorem own_B.same {P Q : Prop} {r v : Int32} (a : own_B P r) (b : own_B Q v) (h : P ↔ Q) : r = v := by
  rcases a with ⟨rfl, p⟩ | ⟨rfl, p⟩ <;> rcases b with ⟨rfl, q⟩ | ⟨rfl, q⟩
  · rfl
  · exact absurd (h.mp p) q
  · exact absurd (h.mpr q) p
  · rfl
theorem own_B.one {P : Prop} {r : Int32} (a : own_B P r) (h : P) : r = 1 := by
  rcases a with ⟨rfl, p⟩ | ⟨rfl, p⟩
  · rfl
  · exact absurd h p
theorem own_B.zero {P : Prop} {r : Int32} (a : own_B P r) (h : ¬ P) : r = 0 := by
  rcases a with ⟨rfl, p⟩ | ⟨rfl, p⟩
  · exact absurd p h
  · rfl
theorem own_B.ne0 {P : Prop} {r : Int32} (a : own_B P r) (h : P) : ¬ r = 0 := by rw [a.one h]; decide
theorem own_B.holds {P : Prop} {r : Int32} (a : own_B P r) (h : ¬ r = 0) : P := by
  rcases a with ⟨rfl, p⟩ | ⟨rfl, p⟩
  · exact p
  · exact absurd rfl h
theorem own_B.fails {P : Prop} {r : Int32} (a : own_B P r) (h : r = 0) : ¬ P := by
  rcases a with ⟨rfl, p⟩ | ⟨rfl, p⟩
  · exact absurd h (by decide)
  · exact p
theorem own_atJ (ws : List Int64) (i : Nat) : (ws.map Value.long).getD i (.long (0 : Int64)) = .long (ws.getD i 0) := by
  simp only [List.getD, List.getElem?_map]; cases ws[i]? <;> rfl
theorem own_atI (ws : List Int32) (i : Nat) : (ws.map Value.int).getD i (.int (0 : Int32)) = .int (ws.getD i 0) := by
  simp only [List.getD, List.getElem?_map]; cases ws[i]? <;> rfl
theorem own_selp {Z s : State} {a0 args : Array Value} {y : MethodName} {n : Nat} (hZ : Z.Warmed39 s.vm) (wi : (Jvm.Cond.instantiable y.cls n).before a0 Z = true) (wm : (Jvm.Cond.instanceMethod y).before a0 Z = true) (wp : (Jvm.Cond.privateMethod y).before a0 Z = true) (hy : y.cls ≠ "java/lang/invoke/MethodHandle" ∧ y.cls ≠ "java/lang/invoke/VarHandle") : (Jvm.Cond.selects y.cls y y).before args s = true := by
  have w1 : (Jvm.Cond.instantiable y.cls n).before args s = true := mvT hZ wi
  obtain ⟨c, k, h1, h2, h3, h4, -⟩ := Cond.instantiable_spec w1
  have h5 : k.isInterface = false := by cases hq : k.isInterface <;> simp [hq] at h4 ⊢
  exact selects_self_of_private h1 h2 h5 (Cond.privateMethod_at (mvP hZ wp (args := args))) (mvT hZ wm) hy
theorem own_hat {T : State} {h : Heap} {a : Addr} {c : Cell} (e : T.heap = h) (q : h[a]? = some c) : T.heap[a]? = some c := by rw [e]; exact q
theorem own_nn (x : Int32) : nar .byte (nar .byte x) = nar .byte x := by
  refine Int32.toInt_inj.mp ?_
  have a := c_i2b x
  have b := c_i2b x.toInt8.toInt32
  show x.toInt8.toInt32.toInt8.toInt32.toInt = x.toInt8.toInt32.toInt
  omega
theorem own_nb (x : Int32) : nar .byte x.toInt8.toInt32 = x.toInt8.toInt32 := own_nn x
theorem own_fit {x : Int32} (h : nar .byte x = x) : fits .byte (.int x) = true := by rw [← h]; exact fits_nar_byte x
theorem own_cl {j : Int32} {i : Nat} (h : j.toInt = (i : Int)) : j.toNatClampNeg = i := by rw [Int32.toNatClampNeg, h]; rfl
theorem own_lt {a b : Int32} (h : a.toInt < b.toInt) : a < b := Int32.lt_iff_toInt_lt.mpr h
theorem own_nlt {a b : Int32} (h : b.toInt ≤ a.toInt) : ¬ a < b := fun q => absurd (Int32.lt_iff_toInt_lt.mp q) (by omega)
theorem own_ltI {a b : Int32} (h : a < b) : a.toInt < b.toInt := Int32.lt_iff_toInt_lt.mp h
theorem own_nltI {a b : Int32} (h : ¬ a < b) : b.toInt ≤ a.toInt := by have := mt Int32.lt_iff_toInt_lt.mpr h; omega
theorem own_neI {a b : Int32} (h : ¬ a = b) : ¬ a.toInt = b.toInt := fun q => h (Int32.toInt_inj.mp q)
theorem own_ltL {a b : Int64} (h : a < b) : a.toInt < b.toInt := Int64.lt_iff_toInt_lt.mp h
theorem own_nltL {a b : Int64} (h : ¬ a < b) : b.toInt ≤ a.toInt := by have := mt Int64.lt_iff_toInt_lt.mpr h; omega
theorem own_neL {a b : Int64} (h : ¬ a = b) : ¬ a.toInt = b.toInt := fun q => h (Int64.toInt_inj.mp q)
def own_dig (c : Int32) : Prop := ¬ c < 48 ∧ ¬ 57 < c
theorem own_nd {c : Int32} (h48 : ¬ c = (48 : Int32)) (h49 : ¬ c = (49 : Int32)) (h50 : ¬ c = (50 : Int32)) (h51 : ¬ c = (51 : Int32)) (h52 : ¬ c = (52 : Int32)) (h53 : ¬ c = (53 : Int32)) (h54 : ¬ c = (54 : Int32)) (h55 : ¬ c = (55 : Int32)) (h56 : ¬ c = (56 : Int32)) (h57 : ¬ c = (57 : Int32)) : ¬ own_dig c := by
  intro q
  have e48 : ¬ c.toInt = (48 : Int) := own_neI h48
  have e49 : ¬ c.toInt = (49 : Int) := own_neI h49
  have e50 : ¬ c.toInt = (50 : Int) := own_neI h50
  have e51 : ¬ c.toInt = (51 : Int) := own_neI h51
  have e52 : ¬ c.toInt = (52 : Int) := own_neI h52
  have e53 : ¬ c.toInt = (53 : Int) := own_neI h53
  have e54 : ¬ c.toInt = (54 : Int) := own_neI h54
  have e55 : ¬ c.toInt = (55 : Int) := own_neI h55
  have e56 : ¬ c.toInt = (56 : Int) := own_neI h56
  have e57 : ¬ c.toInt = (57 : Int) := own_neI h57
  have a : (48 : Int) ≤ c.toInt := own_nltI q.1
  have b : c.toInt ≤ (57 : Int) := own_nltI q.2
  omega
theorem d1_0 : decode prog_30_method_12_code 0 = .ok (.iload_n 0, 1) := by decide +kernel
theorem d1_1 : decode prog_30_method_12_code 1 = .ok (.bipush 48, 2) := by decide +kernel
theorem d1_3 : decode prog_30_method_12_code 3 = .ok (.if_icmp .lt 13, 3) := by decide +kernel
theorem d1_6 : decode prog_30_method_12_code 6 = .ok (.iload_n 0, 1) := by decide +kernel
theorem d1_7 : decode prog_30_method_12_code 7 = .ok (.bipush 57, 2) := by decide +kernel
theorem d1_9 : decode prog_30_method_12_code 9 = .ok (.if_icmp .gt 7, 3) := by decide +kernel
theorem d1_12 : decode prog_30_method_12_code 12 = .ok (.iconst 1, 1) := by decide +kernel
theorem d1_13 : decode prog_30_method_12_code 13 = .ok (.goto 4, 3) := by decide +kernel
theorem d1_16 : decode prog_30_method_12_code 16 = .ok (.iconst 0, 1) := by decide +kernel
theorem d1_17 : decode prog_30_method_12_code 17 = .ok (.ireturn, 1) := by decide +kernel
theorem pn_1 : plainName "com/example/deferline/deferline/io/Formats" = true := by first | (simp [plainName, overriddenIn]; done) | decide +kernel
theorem ef_1 (m : MethodId) (x0 : Int32) : entryFrame m #[(.int x0)] 1 = mkF m 0 #[.val (.int x0)] [] := by first | (simp [entryFrame, mkF, argsToLocals, Value.category]; done) | rfl
def Q1 (Z : State) (p1 : Int32) (h0 : Heap) (n0 : Nat) (v : Option Value) (h : Heap) (L : List Loc) : Prop := ∃ (r : Int32), v = some (.int r) ∧ (own_B (own_dig p1) r) ∧ Fr n0 L ∧ h = h0
set_option maxRecDepth 65536 in
set_option maxHeartbeats 40000000 in
theorem rm1 (l : Launch) (Z : State) (a0 : Array Value) (hw : ∀ d ∈ tables_1, d.before a0 Z = true) (ws : List Jvm.Cond) (p1 : Int32) (h0 : Heap) (n0 : Nat) (Z0 : n0 ≤ h0.size)  :
    MetFree l (⟨"com/example/deferline/deferline/io/Formats", "isDigit", "(C)Z"⟩ : MethodName) (head1 (Jvm.Cond.code (⟨"com/example/deferline/deferline/io/Formats", "isDigit", "(C)Z"⟩ : MethodName) prog_30_method_12_code 1 (some .boolean) :: ws) ({ frames := 0, cells := 0, slots := 0, locals := 0 } : Room)) (fun a U => a = #[(.int p1)] ∧ Z.Warmed39 U.vm ∧ U.heap = h0) (fun _ _ _ _ _ => True) (fun _ U o U' => ∃ v L, o = .returned v ∧ Q1 Z p1 h0 n0 v U'.heap L ∧ FrameEnd U o U' L ({ frames := 0, cells := 0, slots := 0, locals := 0 } : Room).cells ({ frames := 0, cells := 0, slots := 0, locals := 0 } : Room).slots) := by
  refine MetFree.of_bodySF (plainFor_of_name pn_1) hisR ?_
  intro p e s m args below meth c s₁ Bd hml0 hP hK
  obtain ⟨rfl, hZ, hh⟩ := hP
  have hx := Bd.exec
  have hby := Bd.bytes
  have hml : c.maxLocals = 1 := hml0
  have hown : s.vm.findClass "com/example/deferline/deferline/io/Formats" = some m.cls := findClass_of_methodNamed Bd.named
  have hnm := (name_of_methodNamed Bd.named Bd.method).1
  have X0 : Stand p l e ({ frames := 0, cells := 0, slots := 0, locals := 0 } : Room) s m #[(.int p1)] below meth c s₁ [] 0 0 := Stand.of_body Bd
  have e0 : s₁.heap = h0 := by rw [← hh, Bd.state]; rfl
  have N0 := Fr.nil n0
  suffices G0 : ∀ K : State → Prop, (∀ (n : State) (v : Option Value) (L : List Loc), n.status = .running → Ended n below (.returned v) → Q1 Z p1 h0 n0 v n.heap L → FrameEnd s (.returned v) n L ({ frames := 0, cells := 0, slots := 0, locals := 0 } : Room).cells ({ frames := 0, cells := 0, slots := 0, locals := 0 } : Room).slots → K n) → own_Go p e below K (s₁.setTop (mkF m 0 #[.val (.int p1)] [])) by
    obtain ⟨t, st, o, a, b, v, L, e1, q, fe⟩ := G0 (fun n => ∃ o, n.status = .running ∧ Ended n below o ∧ ∃ v L, o = .returned v ∧ Q1 Z p1 h0 n0 v n.heap L ∧ FrameEnd s o n L ({ frames := 0, cells := 0, slots := 0, locals := 0 } : Room).cells ({ frames := 0, cells := 0, slots := 0, locals := 0 } : Room).slots) (fun n v L a b q f => ⟨_, a, b, v, L, rfl, q, f⟩)
    exact ⟨t, o, castTop (ef_1 m p1) st, a, b, v, L, e1, q, fe⟩
  intro K fin
  show own_Go p e below K (s₁.setTop (mkF m 0 #[.val (.int p1)] []))
  refine own_st (fun t k => XS.iloadN X0.here hx rfl (hb hby d1_0) rfl k) ?_
  show own_Go p e below K (s₁.setTop (mkF m 1 #[.val (.int p1)] [(.int p1)]))
  refine own_st (fun t k => XS.bipush X0.here hx rfl (hb hby d1_1) k) ?_
  show own_Go p e below K (s₁.setTop (mkF m 3 #[.val (.int p1)] [(.int (48 : Int32)), (.int p1)]))
  by_cases hc3 : p1 < (48 : Int32)
  · refine own_st (fun t k => XS.icmpYes X0.here hx rfl (pc0 := 3) (pc' := 16) rfl (hb hby d1_3) rfl (tlt hc3).1 (by decide) (by decide) k) ?_
    show own_Go p e below K (s₁.setTop (mkF m 16 #[.val (.int p1)] []))
    refine own_st (fun t k => XS.iconst X0.here hx rfl (hb hby d1_16) k) ?_
    show own_Go p e below K (s₁.setTop (mkF m 17 #[.val (.int p1)] [(.int (0 : Int32))]))
    obtain ⟨fs, hr, hrun, hended, hW, hsame⟩ := X0.leave (v := some (.int (nar .boolean (0 : Int32)))) (fun h => by rw [Bd.returns] at h; cases h)
    refine ⟨_, retN X0 hx (t := .boolean) Bd.returns (by simp) (hb hby d1_17) hr, fin _ _ _ hrun hended ?_ ⟨⟨_, rfl⟩, hW, hsame.mono (by decide) (by decide)⟩⟩
    show Q1 Z p1 h0 n0 _ s₁.heap _
    rw [e0]
    exact ⟨_, rfl, (own_B.no (by decide) fun q => q.1 hc3), N0, rfl⟩
  refine own_st (fun t k => XS.icmpNo X0.here hx rfl (hb hby d1_3) rfl (flt hc3).1 k) ?_
  show own_Go p e below K (s₁.setTop (mkF m 6 #[.val (.int p1)] []))
  refine own_st (fun t k => XS.iloadN X0.here hx rfl (hb hby d1_6) rfl k) ?_
  show own_Go p e below K (s₁.setTop (mkF m 7 #[.val (.int p1)] [(.int p1)]))
  refine own_st (fun t k => XS.bipush X0.here hx rfl (hb hby d1_7) k) ?_
  show own_Go p e below K (s₁.setTop (mkF m 9 #[.val (.int p1)] [(.int (57 : Int32)), (.int p1)]))
  by_cases hc9 : (57 : Int32) < p1
  · refine own_st (fun t k => XS.icmpYes X0.here hx rfl (pc0 := 9) (pc' := 16) rfl (hb hby d1_9) rfl (tlt hc9).2.2.1 (by decide) (by decide) k) ?_
    show own_Go p e below K (s₁.setTop (mkF m 16 #[.val (.int p1)] []))
    refine own_st (fun t k => XS.iconst X0.here hx rfl (hb hby d1_16) k) ?_
    show own_Go p e below K (s₁.setTop (mkF m 17 #[.val (.int p1)] [(.int (0 : Int32))]))
    obtain ⟨fs, hr, hrun, hended, hW, hsame⟩ := X0.leave (v := some (.int (nar .boolean (0 : Int32)))) (fun h => by rw [Bd.returns] at h; cases h)
    refine ⟨_, retN X0 hx (t := .boolean) Bd.returns (by simp) (hb hby d1_17) hr, fin _ _ _ hrun hended ?_ ⟨⟨_, rfl⟩, hW, hsame.mono (by decide) (by decide)⟩⟩
    show Q1 Z p1 h0 n0 _ s₁.heap _
    rw [e0]
    exact ⟨_, rfl, (own_B.no (by decide) fun q => q.2 hc9), N0, rfl⟩
  refine own_st (fun t k => XS.icmpNo X0.here hx rfl (hb hby d1_9) rfl (flt hc9).2.2.1 k) ?_
  show own_Go p e below K (s₁.setTop (mkF m 12 #[.val (.int p1)] []))
  refine own_st (fun t k => XS.iconst X0.here hx rfl (hb hby d1_12) k) ?_
  show own_Go p e below K (s₁.setTop (mkF m 13 #[.val (.int p1)] [(.int (1 : Int32))]))
  refine own_st (fun t k => XS.goto X0.here hx rfl (pc0 := 13) (pc' := 17) rfl (hb hby d1_13) (by decide) (by decide) k) ?_
  show own_Go p e below K (s₁.setTop (mkF m 17 #[.val (.int p1)] [(.int (1 : Int32))]))
  obtain ⟨fs, hr, hrun, hended, hW, hsame⟩ := X0.leave (v := some (.int (nar .boolean (1 : Int32)))) (fun h => by rw [Bd.returns] at h; cases h)
  refine ⟨_, retN X0 hx (t := .boolean) Bd.returns (by simp) (hb hby d1_17) hr, fin _ _ _ hrun hended ?_ ⟨⟨_, rfl⟩, hW, hsame.mono (by decide) (by decide)⟩⟩
  show Q1 Z p1 h0 n0 _ s₁.heap _
  rw [e0]
  exact ⟨_, rfl, (own_B.yes (by decide) ⟨hc3, hc9⟩), N0, rfl⟩
theorem pn_0 : plainName "com/example/deferline/deferline/io/FormatsIsDigitPinLaw" = true := by first | (simp [plainName, overriddenIn]; done) | decide +kernel
theorem pd_0_0 : parseMethodDescriptor "(C)Z" = some ⟨[.char], some .boolean⟩ := by decide +kernel
theorem ef_0 (m : MethodId) (x0 : Int32) : entryFrame m #[(.int x0)] maxLocals = mkF m 0 #[.val (.int x0), .unset, .unset] [] := by first | (simp [entryFrame, mkF, argsToLocals, Value.category, maxLocals]; done) | rfl
def Q0 (Z : State) (p1 : Int32) (h0 : Heap) (n0 : Nat) (v : Option Value) (h : Heap) (L : List Loc) : Prop := v = some (.int 1) ∧ Fr n0 L
set_option maxRecDepth 65536 in
set_option maxHeartbeats 40000000 in
theorem rm0 (l : Launch) (Z : State) (a0 : Array Value) (hw : ∀ d ∈ tables_1, d.before a0 Z = true) (ws : List Jvm.Cond) (p1 : Int32) (h0 : Heap) (n0 : Nat) (Z0 : n0 ≤ h0.size)  :
    MetFree l x (head1 (Jvm.Cond.code x code maxLocals ret :: ws) room_1) (fun a U => a = #[(.int p1)] ∧ Z.Warmed39 U.vm ∧ U.heap = h0) (fun _ _ _ _ _ => True) (fun _ U o U' => ∃ v L, o = .returned v ∧ Q0 Z p1 h0 n0 v U'.heap L ∧ FrameEnd U o U' L 0 0) := by
  refine MetFree.of_bodySF (plainFor_of_name pn_0) hisR ?_
  intro p e s m args below meth c s₁ Bd hml0 hP hK
  obtain ⟨rfl, hZ, hh⟩ := hP
  have hx := Bd.exec
  have hby := Bd.bytes
  have hml : c.maxLocals = 3 := hml0
  have hown : s.vm.findClass "com/example/deferline/deferline/io/FormatsIsDigitPinLaw" = some m.cls := findClass_of_methodNamed Bd.named
  have hnm := (name_of_methodNamed Bd.named Bd.method).1
  have X0 : Stand p l e room_1 s m #[(.int p1)] below meth c s₁ [] 0 0 := Stand.of_body Bd
  have e0 : s₁.heap = h0 := by rw [← hh, Bd.state]; rfl
  have N0 := Fr.nil n0
  suffices G0 : ∀ K : State → Prop, (∀ (n : State) (v : Option Value) (L : List Loc), n.status = .running → Ended n below (.returned v) → Q0 Z p1 h0 n0 v n.heap L → FrameEnd s (.returned v) n L 0 0 → K n) → own_Go p e below K (s₁.setTop (mkF m 0 #[.val (.int p1), .unset, .unset] [])) by
    obtain ⟨t, st, o, a, b, v, L, e1, q, fe⟩ := G0 (fun n => ∃ o, n.status = .running ∧ Ended n below o ∧ ∃ v L, o = .returned v ∧ Q0 Z p1 h0 n0 v n.heap L ∧ FrameEnd s o n L 0 0) (fun n v L a b q f => ⟨_, a, b, v, L, rfl, q, f⟩)
    exact ⟨t, o, castTop (ef_0 m p1) st, a, b, v, L, e1, q, fe⟩
  intro K fin
  show own_Go p e below K (s₁.setTop (mkF m 0 #[.val (.int p1), .unset, .unset] []))
  refine own_st (fun t k => XS.iloadN X0.here hx rfl (hb hby at_0) rfl k) ?_
  show own_Go p e below K (s₁.setTop (mkF m 1 #[.val (.int p1), .unset, .unset] [(.int p1)]))
  refine own_st (X0.ldcInt hx hown (mvT hZ (hw _ (List.mem_of_getElem? (i := 0) rfl))) (g := (mkF m 1 #[.val (.int p1), .unset, .unset] [(.int p1)])) rfl (hb hby at_1)) ?_
  show own_Go p e below K (s₁.setTop (mkF m 3 #[.val (.int p1), .unset, .unset] [(.int (65535 : Int32)), (.int p1)]))
  refine own_st (fun t k => XS.iand X0.here hx rfl (hb hby at_3) rfl k) ?_
  show own_Go p e below K (s₁.setTop (mkF m 4 #[.val (.int p1), .unset, .unset] [(.int (p1 &&& (65535 : Int32)))]))
  refine own_st (fun t k => XS.i2c X0.here hx rfl (hb hby at_4) rfl k) ?_
  show own_Go p e below K (s₁.setTop (mkF m 5 #[.val (.int p1), .unset, .unset] [(.int ((p1 &&& (65535 : Int32)).toUInt32.toUInt16.toUInt32.toInt32))]))
  generalize hcc : ((p1 &&& (65535 : Int32)).toUInt32.toUInt16.toUInt32.toInt32) = cc
  show own_Go p e below K (s₁.setTop (mkF m 5 #[.val (.int p1), .unset, .unset] [(.int cc)]))
  refine own_st (fun t k => XS.istoreN X0.here hx rfl (hb hby at_5) rfl (l' := #[.val (.int p1), .val (.int cc), .unset]) rfl k) ?_
  show own_Go p e below K (s₁.setTop (mkF m 6 #[.val (.int p1), .val (.int cc), .unset] []))
  have J71 : ∀ (T' : State) (locs' : List Loc) (X' : Stand p l e room_1 s m #[(.int p1)] below meth c T' locs' 0 0) (e' : T'.heap = h0) (N' : Fr n0 locs') (v71_0 : Int32), (own_B (own_dig cc) v71_0) → own_Go p e below K (T'.setTop (mkF m 71 #[.val (.int p1), .val (.int cc), .unset] [(.int v71_0)])) := by
    intro T1 locs1 X1 e1 N1 v71_0 hj71
    refine own_st (fun t k => XS.istoreN X1.here hx rfl (hb hby at_71) rfl (l' := #[.val (.int p1), .val (.int cc), .val (.int v71_0)]) rfl k) ?_
    show own_Go p e below K (T1.setTop (mkF m 72 #[.val (.int p1), .val (.int cc), .val (.int v71_0)] []))
    refine own_st (fun t k => XS.iloadN X1.here hx rfl (hb hby at_72) rfl k) ?_
    show own_Go p e below K (T1.setTop (mkF m 73 #[.val (.int p1), .val (.int cc), .val (.int v71_0)] [(.int cc)]))
    obtain ⟨_, _, ⟨T2, L2, k2, n2⟩, -, X2, ⟨Lc2, hQ2, l2, y2, z2⟩, st2⟩ := Jvm.LawKit.callS X1 hx (y := (⟨"com/example/deferline/deferline/io/Formats", "isDigit", "(C)Z"⟩ : MethodName)) hown (mvT hZ (hw _ (List.mem_of_getElem? (i := 1) rfl))) (mvT hZ (hw _ (List.mem_of_getElem? (i := 2) rfl))) (mvT hZ (hw _ (List.mem_of_getElem? (i := 3) rfl))) (mvT hZ (hw _ (List.mem_of_getElem? (i := 4) rfl))) (by decide) (backOf (W := 0) (rm1 l Z a0 hw [] cc h0 n0 Z0) hZ (hw _ (List.mem_of_getElem? (i := 4) rfl)) (hw _ (List.mem_of_getElem? (i := 3) rfl)) (by decide) (by decide)) (g := (mkF m 73 #[.val (.int p1), .val (.int cc), .val (.int v71_0)] [(.int cc)])) rfl (by rw [hml]; rfl) (argsL := [(.int cc)]) (rest := []) (lenOf pd_0_0 rfl) rfl (by show 2 * 0 + _ ≤ _; exact Nat.le_of_eq rfl) (hb hby at_73) (fun _ _ => ⟨rfl, e1, (by decide : 0 + 0 ≤ _), (by decide : 0 + 0 ≤ _)⟩)
    dsimp only [Pt.U, Pt.locs, Pt.cells, Pt.slots] at X2 l2 y2 z2 st2 hQ2
    subst l2 y2 z2
    obtain ⟨r2, rfl, hr2, N2q, e2⟩ := hQ2
    have N2 := Fr.app N1 N2q
    refine own_st st2 ?_
    show own_Go p e below K (T2.setTop (mkF m 76 #[.val (.int p1), .val (.int cc), .val (.int v71_0)] [(.int r2)]))
    refine own_st (fun t k => XS.iloadN X2.here hx rfl (hb hby at_76) rfl k) ?_
    show own_Go p e below K (T2.setTop (mkF m 77 #[.val (.int p1), .val (.int cc), .val (.int v71_0)] [(.int v71_0), (.int r2)]))
    refine own_st (fun t k => XS.icmpNo X2.here hx rfl (hb hby at_77) rfl (teq (own_B.same hr2 hj71 Iff.rfl : r2 = v71_0)).2 k) ?_
    show own_Go p e below K (T2.setTop (mkF m 80 #[.val (.int p1), .val (.int cc), .val (.int v71_0)] []))
    refine own_st (fun t k => XS.iconst X2.here hx rfl (hb hby at_80) k) ?_
    show own_Go p e below K (T2.setTop (mkF m 81 #[.val (.int p1), .val (.int cc), .val (.int v71_0)] [(.int (1 : Int32))]))
    refine own_st (fun t k => XS.goto X2.here hx rfl (pc0 := 81) (pc' := 85) rfl (hb hby at_81) (by decide) (by decide) k) ?_
    show own_Go p e below K (T2.setTop (mkF m 85 #[.val (.int p1), .val (.int cc), .val (.int v71_0)] [(.int (1 : Int32))]))
    obtain ⟨fs, hr, hrun, hended, hW, hsame⟩ := X2.leave (v := some (.int (nar .boolean (1 : Int32)))) (fun h => by rw [Bd.returns] at h; cases h)
    refine ⟨_, retN X2 hx (t := .boolean) Bd.returns (by simp) (hb hby at_85) hr, fin _ _ _ hrun hended ?_ ⟨⟨_, rfl⟩, hW, hsame.mono (by decide) (by decide)⟩⟩
    show Q0 Z p1 h0 n0 _ T2.heap _
    rw [e2]
    exact ⟨rfl, N2⟩
  refine own_st (fun t k => XS.iloadN X0.here hx rfl (hb hby at_6) rfl k) ?_
  show own_Go p e below K (s₁.setTop (mkF m 7 #[.val (.int p1), .val (.int cc), .unset] [(.int cc)]))
  refine own_st (fun t k => XS.bipush X0.here hx rfl (hb hby at_7) k) ?_
  show own_Go p e below K (s₁.setTop (mkF m 9 #[.val (.int p1), .val (.int cc), .unset] [(.int (48 : Int32)), (.int cc)]))
  by_cases hc9 : cc = (48 : Int32)
  · refine own_st (fun t k => XS.icmpYes X0.here hx rfl (pc0 := 9) (pc' := 66) rfl (hb hby at_9) rfl (teq hc9).1 (by decide) (by decide) k) ?_
    show own_Go p e below K (s₁.setTop (mkF m 66 #[.val (.int p1), .val (.int cc), .unset] []))
    refine own_st (fun t k => XS.iconst X0.here hx rfl (hb hby at_66) k) ?_
    show own_Go p e below K (s₁.setTop (mkF m 67 #[.val (.int p1), .val (.int cc), .unset] [(.int (1 : Int32))]))
    refine own_st (fun t k => XS.goto X0.here hx rfl (pc0 := 67) (pc' := 71) rfl (hb hby at_67) (by decide) (by decide) k) ?_
    show own_Go p e below K (s₁.setTop (mkF m 71 #[.val (.int p1), .val (.int cc), .unset] [(.int (1 : Int32))]))
    exact J71 s₁ _ X0 e0 N0 ((1 : Int32)) (own_B.yes rfl (by rw [hc9]; exact ⟨by decide, by decide⟩))
  refine own_st (fun t k => XS.icmpNo X0.here hx rfl (hb hby at_9) rfl (feq hc9).1 k) ?_
  show own_Go p e below K (s₁.setTop (mkF m 12 #[.val (.int p1), .val (.int cc), .unset] []))
  refine own_st (fun t k => XS.iloadN X0.here hx rfl (hb hby at_12) rfl k) ?_
  show own_Go p e below K (s₁.setTop (mkF m 13 #[.val (.int p1), .val (.int cc), .unset] [(.int cc)]))
  refine own_st (fun t k => XS.bipush X0.here hx rfl (hb hby at_13) k) ?_
  show own_Go p e below K (s₁.setTop (mkF m 15 #[.val (.int p1), .val (.int cc), .unset] [(.int (49 : Int32)), (.int cc)]))
  by_cases hc15 : cc = (49 : Int32)
  · refine own_st (fun t k => XS.icmpYes X0.here hx rfl (pc0 := 15) (pc' := 66) rfl (hb hby at_15) rfl (teq hc15).1 (by decide) (by decide) k) ?_
    show own_Go p e below K (s₁.setTop (mkF m 66 #[.val (.int p1), .val (.int cc), .unset] []))
    refine own_st (fun t k => XS.iconst X0.here hx rfl (hb hby at_66) k) ?_
    show own_Go p e below K (s₁.setTop (mkF m 67 #[.val (.int p1), .val (.int cc), .unset] [(.int (1 : Int32))]))
    refine own_st (fun t k => XS.goto X0.here hx rfl (pc0 := 67) (pc' := 71) rfl (hb hby at_67) (by decide) (by decide) k) ?_
    show own_Go p e below K (s₁.setTop (mkF m 71 #[.val (.int p1), .val (.int cc), .unset] [(.int (1 : Int32))]))
    exact J71 s₁ _ X0 e0 N0 ((1 : Int32)) (own_B.yes rfl (by rw [hc15]; exact ⟨by decide, by decide⟩))
  refine own_st (fun t k => XS.icmpNo X0.here hx rfl (hb hby at_15) rfl (feq hc15).1 k) ?_
  show own_Go p e below K (s₁.setTop (mkF m 18 #[.val (.int p1), .val (.int cc), .unset] []))
  refine own_st (fun t k => XS.iloadN X0.here hx rfl (hb hby at_18) rfl k) ?_
  show own_Go p e below K (s₁.setTop (mkF m 19 #[.val (.int p1), .val (.int cc), .unset] [(.int cc)]))
  refine own_st (fun t k => XS.bipush X0.here hx rfl (hb hby at_19) k) ?_
  show own_Go p e below K (s₁.setTop (mkF m 21 #[.val (.int p1), .val (.int cc), .unset] [(.int (50 : Int32)), (.int cc)]))
  by_cases hc21 : cc = (50 : Int32)
  · refine own_st (fun t k => XS.icmpYes X0.here hx rfl (pc0 := 21) (pc' := 66) rfl (hb hby at_21) rfl (teq hc21).1 (by decide) (by decide) k) ?_
    show own_Go p e below K (s₁.setTop (mkF m 66 #[.val (.int p1), .val (.int cc), .unset] []))
    refine own_st (fun t k => XS.iconst X0.here hx rfl (hb hby at_66) k) ?_
    show own_Go p e below K (s₁.setTop (mkF m 67 #[.val (.int p1), .val (.int cc), .unset] [(.int (1 : Int32))]))
    refine own_st (fun t k => XS.goto X0.here hx rfl (pc0 := 67) (pc' := 71) rfl (hb hby at_67) (by decide) (by decide) k) ?_
    show own_Go p e below K (s₁.setTop (mkF m 71 #[.val (.int p1), .val (.int cc), .unset] [(.int (1 : Int32))]))
    exact J71 s₁ _ X0 e0 N0 ((1 : Int32)) (own_B.yes rfl (by rw [hc21]; exact ⟨by decide, by decide⟩))
  refine own_st (fun t k => XS.icmpNo X0.here hx rfl (hb hby at_21) rfl (feq hc21).1 k) ?_
  show own_Go p e below K (s₁.setTop (mkF m 24 #[.val (.int p1), .val (.int cc), .unset] []))
  refine own_st (fun t k => XS.iloadN X0.here hx rfl (hb hby at_24) rfl k) ?_
  show own_Go p e below K (s₁.setTop (mkF m 25 #[.val (.int p1), .val (.int cc), .unset] [(.int cc)]))
  refine own_st (fun t k => XS.bipush X0.here hx rfl (hb hby at_25) k) ?_
  show own_Go p e below K (s₁.setTop (mkF m 27 #[.val (.int p1), .val (.int cc), .unset] [(.int (51 : Int32)), (.int cc)]))
  by_cases hc27 : cc = (51 : Int32)
  · refine own_st (fun t k => XS.icmpYes X0.here hx rfl (pc0 := 27) (pc' := 66) rfl (hb hby at_27) rfl (teq hc27).1 (by decide) (by decide) k) ?_
    show own_Go p e below K (s₁.setTop (mkF m 66 #[.val (.int p1), .val (.int cc), .unset] []))
    refine own_st (fun t k => XS.iconst X0.here hx rfl (hb hby at_66) k) ?_
    show own_Go p e below K (s₁.setTop (mkF m 67 #[.val (.int p1), .val (.int cc), .unset] [(.int (1 : Int32))]))
    refine own_st (fun t k => XS.goto X0.here hx rfl (pc0 := 67) (pc' := 71) rfl (hb hby at_67) (by decide) (by decide) k) ?_
    show own_Go p e below K (s₁.setTop (mkF m 71 #[.val (.int p1), .val (.int cc), .unset] [(.int (1 : Int32))]))
    exact J71 s₁ _ X0 e0 N0 ((1 : Int32)) (own_B.yes rfl (by rw [hc27]; exact ⟨by decide, by decide⟩))
  refine own_st (fun t k => XS.icmpNo X0.here hx rfl (hb hby at_27) rfl (feq hc27).1 k) ?_
  show own_Go p e below K (s₁.setTop (mkF m 30 #[.val (.int p1), .val (.int cc), .unset] []))
  refine own_st (fun t k => XS.iloadN X0.here hx rfl (hb hby at_30) rfl k) ?_
  show own_Go p e below K (s₁.setTop (mkF m 31 #[.val (.int p1), .val (.int cc), .unset] [(.int cc)]))
  refine own_st (fun t k => XS.bipush X0.here hx rfl (hb hby at_31) k) ?_
  show own_Go p e below K (s₁.setTop (mkF m 33 #[.val (.int p1), .val (.int cc), .unset] [(.int (52 : Int32)), (.int cc)]))
  by_cases hc33 : cc = (52 : Int32)
  · refine own_st (fun t k => XS.icmpYes X0.here hx rfl (pc0 := 33) (pc' := 66) rfl (hb hby at_33) rfl (teq hc33).1 (by decide) (by decide) k) ?_
    show own_Go p e below K (s₁.setTop (mkF m 66 #[.val (.int p1), .val (.int cc), .unset] []))
    refine own_st (fun t k => XS.iconst X0.here hx rfl (hb hby at_66) k) ?_
    show own_Go p e below K (s₁.setTop (mkF m 67 #[.val (.int p1), .val (.int cc), .unset] [(.int (1 : Int32))]))
    refine own_st (fun t k => XS.goto X0.here hx rfl (pc0 := 67) (pc' := 71) rfl (hb hby at_67) (by decide) (by decide) k) ?_
    show own_Go p e below K (s₁.setTop (mkF m 71 #[.val (.int p1), .val (.int cc), .unset] [(.int (1 : Int32))]))
    exact J71 s₁ _ X0 e0 N0 ((1 : Int32)) (own_B.yes rfl (by rw [hc33]; exact ⟨by decide, by decide⟩))
  refine own_st (fun t k => XS.icmpNo X0.here hx rfl (hb hby at_33) rfl (feq hc33).1 k) ?_
  show own_Go p e below K (s₁.setTop (mkF m 36 #[.val (.int p1), .val (.int cc), .unset] []))
  refine own_st (fun t k => XS.iloadN X0.here hx rfl (hb hby at_36) rfl k) ?_
  show own_Go p e below K (s₁.setTop (mkF m 37 #[.val (.int p1), .val (.int cc), .unset] [(.int cc)]))
  refine own_st (fun t k => XS.bipush X0.here hx rfl (hb hby at_37) k) ?_
  show own_Go p e below K (s₁.setTop (mkF m 39 #[.val (.int p1), .val (.int cc), .unset] [(.int (53 : Int32)), (.int cc)]))
  by_cases hc39 : cc = (53 : Int32)
  · refine own_st (fun t k => XS.icmpYes X0.here hx rfl (pc0 := 39) (pc' := 66) rfl (hb hby at_39) rfl (teq hc39).1 (by decide) (by decide) k) ?_
    show own_Go p e below K (s₁.setTop (mkF m 66 #[.val (.int p1), .val (.int cc), .unset] []))
    refine own_st (fun t k => XS.iconst X0.here hx rfl (hb hby at_66) k) ?_
    show own_Go p e below K (s₁.setTop (mkF m 67 #[.val (.int p1), .val (.int cc), .unset] [(.int (1 : Int32))]))
    refine own_st (fun t k => XS.goto X0.here hx rfl (pc0 := 67) (pc' := 71) rfl (hb hby at_67) (by decide) (by decide) k) ?_
    show own_Go p e below K (s₁.setTop (mkF m 71 #[.val (.int p1), .val (.int cc), .unset] [(.int (1 : Int32))]))
    exact J71 s₁ _ X0 e0 N0 ((1 : Int32)) (own_B.yes rfl (by rw [hc39]; exact ⟨by decide, by decide⟩))
  refine own_st (fun t k => XS.icmpNo X0.here hx rfl (hb hby at_39) rfl (feq hc39).1 k) ?_
  show own_Go p e below K (s₁.setTop (mkF m 42 #[.val (.int p1), .val (.int cc), .unset] []))
  refine own_st (fun t k => XS.iloadN X0.here hx rfl (hb hby at_42) rfl k) ?_
  show own_Go p e below K (s₁.setTop (mkF m 43 #[.val (.int p1), .val (.int cc), .unset] [(.int cc)]))
  refine own_st (fun t k => XS.bipush X0.here hx rfl (hb hby at_43) k) ?_
  show own_Go p e below K (s₁.setTop (mkF m 45 #[.val (.int p1), .val (.int cc), .unset] [(.int (54 : Int32)), (.int cc)]))
  by_cases hc45 : cc = (54 : Int32)
  · refine own_st (fun t k => XS.icmpYes X0.here hx rfl (pc0 := 45) (pc' := 66) rfl (hb hby at_45) rfl (teq hc45).1 (by decide) (by decide) k) ?_
    show own_Go p e below K (s₁.setTop (mkF m 66 #[.val (.int p1), .val (.int cc), .unset] []))
    refine own_st (fun t k => XS.iconst X0.here hx rfl (hb hby at_66) k) ?_
    show own_Go p e below K (s₁.setTop (mkF m 67 #[.val (.int p1), .val (.int cc), .unset] [(.int (1 : Int32))]))
    refine own_st (fun t k => XS.goto X0.here hx rfl (pc0 := 67) (pc' := 71) rfl (hb hby at_67) (by decide) (by decide) k) ?_
    show own_Go p e below K (s₁.setTop (mkF m 71 #[.val (.int p1), .val (.int cc), .unset] [(.int (1 : Int32))]))
    exact J71 s₁ _ X0 e0 N0 ((1 : Int32)) (own_B.yes rfl (by rw [hc45]; exact ⟨by decide, by decide⟩))
  refine own_st (fun t k => XS.icmpNo X0.here hx rfl (hb hby at_45) rfl (feq hc45).1 k) ?_
  show own_Go p e below K (s₁.setTop (mkF m 48 #[.val (.int p1), .val (.int cc), .unset] []))
  refine own_st (fun t k => XS.iloadN X0.here hx rfl (hb hby at_48) rfl k) ?_
  show own_Go p e below K (s₁.setTop (mkF m 49 #[.val (.int p1), .val (.int cc), .unset] [(.int cc)]))
  refine own_st (fun t k => XS.bipush X0.here hx rfl (hb hby at_49) k) ?_
  show own_Go p e below K (s₁.setTop (mkF m 51 #[.val (.int p1), .val (.int cc), .unset] [(.int (55 : Int32)), (.int cc)]))
  by_cases hc51 : cc = (55 : Int32)
  · refine own_st (fun t k => XS.icmpYes X0.here hx rfl (pc0 := 51) (pc' := 66) rfl (hb hby at_51) rfl (teq hc51).1 (by decide) (by decide) k) ?_
    show own_Go p e below K (s₁.setTop (mkF m 66 #[.val (.int p1), .val (.int cc), .unset] []))
    refine own_st (fun t k => XS.iconst X0.here hx rfl (hb hby at_66) k) ?_
    show own_Go p e below K (s₁.setTop (mkF m 67 #[.val (.int p1), .val (.int cc), .unset] [(.int (1 : Int32))]))
    refine own_st (fun t k => XS.goto X0.here hx rfl (pc0 := 67) (pc' := 71) rfl (hb hby at_67) (by decide) (by decide) k) ?_
    show own_Go p e below K (s₁.setTop (mkF m 71 #[.val (.int p1), .val (.int cc), .unset] [(.int (1 : Int32))]))
    exact J71 s₁ _ X0 e0 N0 ((1 : Int32)) (own_B.yes rfl (by rw [hc51]; exact ⟨by decide, by decide⟩))
  refine own_st (fun t k => XS.icmpNo X0.here hx rfl (hb hby at_51) rfl (feq hc51).1 k) ?_
  show own_Go p e below K (s₁.setTop (mkF m 54 #[.val (.int p1), .val (.int cc), .unset] []))
  refine own_st (fun t k => XS.iloadN X0.here hx rfl (hb hby at_54) rfl k) ?_
  show own_Go p e below K (s₁.setTop (mkF m 55 #[.val (.int p1), .val (.int cc), .unset] [(.int cc)]))
  refine own_st (fun t k => XS.bipush X0.here hx rfl (hb hby at_55) k) ?_
  show own_Go p e below K (s₁.setTop (mkF m 57 #[.val (.int p1), .val (.int cc), .unset] [(.int (56 : Int32)), (.int cc)]))
  by_cases hc57 : cc = (56 : Int32)
  · refine own_st (fun t k => XS.icmpYes X0.here hx rfl (pc0 := 57) (pc' := 66) rfl (hb hby at_57) rfl (teq hc57).1 (by decide) (by decide) k) ?_
    show own_Go p e below K (s₁.setTop (mkF m 66 #[.val (.int p1), .val (.int cc), .unset] []))
    refine own_st (fun t k => XS.iconst X0.here hx rfl (hb hby at_66) k) ?_
    show own_Go p e below K (s₁.setTop (mkF m 67 #[.val (.int p1), .val (.int cc), .unset] [(.int (1 : Int32))]))
    refine own_st (fun t k => XS.goto X0.here hx rfl (pc0 := 67) (pc' := 71) rfl (hb hby at_67) (by decide) (by decide) k) ?_
    show own_Go p e below K (s₁.setTop (mkF m 71 #[.val (.int p1), .val (.int cc), .unset] [(.int (1 : Int32))]))
    exact J71 s₁ _ X0 e0 N0 ((1 : Int32)) (own_B.yes rfl (by rw [hc57]; exact ⟨by decide, by decide⟩))
  refine own_st (fun t k => XS.icmpNo X0.here hx rfl (hb hby at_57) rfl (feq hc57).1 k) ?_
  show own_Go p e below K (s₁.setTop (mkF m 60 #[.val (.int p1), .val (.int cc), .unset] []))
  refine own_st (fun t k => XS.iloadN X0.here hx rfl (hb hby at_60) rfl k) ?_
  show own_Go p e below K (s₁.setTop (mkF m 61 #[.val (.int p1), .val (.int cc), .unset] [(.int cc)]))
  refine own_st (fun t k => XS.bipush X0.here hx rfl (hb hby at_61) k) ?_
  show own_Go p e below K (s₁.setTop (mkF m 63 #[.val (.int p1), .val (.int cc), .unset] [(.int (57 : Int32)), (.int cc)]))
  by_cases hc63 : cc = (57 : Int32)
  · refine own_st (fun t k => XS.icmpNo X0.here hx rfl (hb hby at_63) rfl (teq hc63).2 k) ?_
    show own_Go p e below K (s₁.setTop (mkF m 66 #[.val (.int p1), .val (.int cc), .unset] []))
    refine own_st (fun t k => XS.iconst X0.here hx rfl (hb hby at_66) k) ?_
    show own_Go p e below K (s₁.setTop (mkF m 67 #[.val (.int p1), .val (.int cc), .unset] [(.int (1 : Int32))]))
    refine own_st (fun t k => XS.goto X0.here hx rfl (pc0 := 67) (pc' := 71) rfl (hb hby at_67) (by decide) (by decide) k) ?_
    show own_Go p e below K (s₁.setTop (mkF m 71 #[.val (.int p1), .val (.int cc), .unset] [(.int (1 : Int32))]))
    exact J71 s₁ _ X0 e0 N0 ((1 : Int32)) (own_B.yes rfl (by rw [hc63]; exact ⟨by decide, by decide⟩))
  refine own_st (fun t k => XS.icmpYes X0.here hx rfl (pc0 := 63) (pc' := 70) rfl (hb hby at_63) rfl (feq hc63).2 (by decide) (by decide) k) ?_
  show own_Go p e below K (s₁.setTop (mkF m 70 #[.val (.int p1), .val (.int cc), .unset] []))
  refine own_st (fun t k => XS.iconst X0.here hx rfl (hb hby at_70) k) ?_
  show own_Go p e below K (s₁.setTop (mkF m 71 #[.val (.int p1), .val (.int cc), .unset] [(.int (0 : Int32))]))
  exact J71 s₁ _ X0 e0 N0 ((0 : Int32)) (own_B.no rfl (own_nd hc9 hc15 hc21 hc27 hc33 hc39 hc45 hc51 hc57 hc63))
set_option maxRecDepth 65536 in
set_option maxHeartbeats 40000000 in
theorem comes_1 {Post : Tables → Env → Array Value → State → Outcome → State → Prop} (hpost : ∀ tb e args s v u, (limb_1_1.after args s (.returned v) u = true ∧ limb_1_2.after args s (.returned v) u = true ∧ True) → FrameEnd s (.returned v) u (Jvm.fieldLocs frame_1_writes args s ++ Jvm.arrayLocs frame_1_arrays args s ++ Jvm.staticLocs frame_1_statics s) 0 0 → Post tb e args s (.returned v) u) :
    ArmFor flags0 classFile x code maxLocals ret World_1 tables_1 room_1 Calls_1 rest_1 Pre_1 Post := by
  intro l hfl _ _ p e ha hc hk s m args below hf hA hF happ hP
  obtain ⟨hcalls, hrest, hpre⟩ := hP
  obtain ⟨-, -, -, hnamed, -, -, -, hat⟩ := (Spec.applies_iff hf).mp happ
  obtain ⟨hg, hn⟩ := and_e (Cond.before_iff.mp (show (Jvm.Cond.and given_1 narrow_1).before args s = true from hpre))
  obtain ⟨g1, g2⟩ := and_e hg
  obtain ⟨w0, rfl⟩ : ∃ w0 : Value, args = #[w0] := by
    have hs : args.size = 1 := by simpa [Cond.value, given_1] using g1
    obtain ⟨L⟩ := args
    match L, hs with
    | [w0], _ => exact ⟨w0, rfl⟩
  have hw := fun d (hd : d ∈ tables_1) => atoms_spec (ws := Jvm.Cond.code x code maxLocals ret :: tables_1) hat d (List.mem_cons_of_mem _ hd)
  have hfit : Fit s := fun {y c} hc i hi => by
    obtain ⟨ha, rfl⟩ := Array.getElem?_eq_some_iff.mp hc
    have q := List.all_eq_true.mp ((Array.all_eq_true_iff_forall_mem.mp hF) _ (Array.getElem_mem ha)) i (List.mem_range.mpr hi)
    simpa [Array.getElem?_eq_getElem hi] using q
  obtain ⟨i0, ei0⟩ := is_v g2
  obtain rfl : w0 = (.int i0) := Option.some.inj ei0
  obtain ⟨n, o, h1, h2, h3, _, L, rfl, ⟨rfl, N⟩, hq⟩ := rm0 l s _ hw tables_1 i0 s.heap s.heap.size (Nat.le_refl _) p e ha hc hk s m _ below hf ((Spec.applies_iff_loose hf).mp happ).1 ⟨rfl, State.Warmed39.refl s, rfl⟩ trivial
  refine ⟨n, _, h1, h2, h3, hpost _ _ _ _ _ _ ⟨Cond.after_iff.mpr rfl, Cond.after_iff.mpr (eq_i res_at (Term.int_eval (1)) rfl), trivial⟩ ⟨hq.1, hq.2.1, (hq.2.2.sift fun y hy => Or.inr (N y hy)).mono (by decide) (by decide)⟩⟩
theorem main_1_1 : Claimed_1_1 := comes_1 fun _ _ _ _ _ _ h hF => ⟨h.1, hF⟩
theorem main_1_2 : Claimed_1_2 := comes_1 fun _ _ _ _ _ _ h hF => ⟨h.2.1, hF⟩
end Jvm.Pilot.@@N@@
namespace Jvm.Pilot.@@N@@
open Jvm Jvm.ClassFile Sem Op Lib Jvm.Free Jvm.Stand Jvm.Pilot.@@N@@.Jvm.D
/-! MADE BY PROGRAM (witnessworld.py) out of the Statement's table words and the real class files: 9 classes; the members and pool entries that the words name. The judged class is class 1, her method 1. -/
namespace start1
open Jvm.ClassFile
def u (s : String) : CpInfo := .utf8 (stringToUtf16 s)
/-- a pool by its gaps: so many unusable entries, then the entry; so many at the end -/
def gap : Nat → List CpInfo → List CpInfo
  | 0, r => r
  | n + 1, r => .unusable :: gap n r
def poolList (es : List (Nat × CpInfo)) (last : Nat) : List CpInfo := es.foldr (fun e r => gap e.1 (e.2 :: r)) (gap last [])
def pool (es : List (Nat × CpInfo)) (last : Nat) : Array CpInfo := ⟨poolList es last⟩
def fileOf (pool : Array CpInfo) (this : Nat) (attrs : Array Attribute := #[]) (ms : Array MethodInfo := #[]) (fl : Nat := 33) (sup : Nat := 0) (ifs : Array Nat := #[]) (fds : Array FieldInfo := #[]) : ClassFile where
  minorVersion := 0
  majorVersion := 65
  constantPool := pool
  accessFlags := fl
  thisClass := this
  superClass := sup
  interfaces := ifs
  fields := fds
  methods := ms
  attributes := attrs
def plain (name : String) (sup : Option ClassId) : Class where
  name := name
  kind := .ordinary
  loader := none
  accessFlags := 33
  super := sup
  interfaces := #[]
  cf := none
  fields := #[]
  methods := #[]
  instanceTypes := #[]
  staticTypes := #[]
  resolved := #[]
  callSites := []
  init := .initialized
  statics := none
  mirror := none

def pool0 : Array CpInfo := pool [(5, u "<init>"), (0, u "()V"), (1, .class_ 10), (1, u "java/lang/Object")] 113

def k0m0 : Method := { name := "<init>", desc := "()V", sig := { parameters := [], returnType := none }, accessFlags := 1, code := none }
/-- java/lang/Object -/
def k0 : Class := { plain "java/lang/Object" none with
  accessFlags := 33
  interfaces := #[]
  cf := some (fileOf pool0 8 #[] #[{ accessFlags := 1, nameIndex := 5, descriptorIndex := 6, attributes := #[] }] 33 0 #[] #[])
  fields := #[]
  methods := #[k0m0]
  instanceTypes := #[]
  staticTypes := #[]
  resolved := Array.replicate 124 none
  statics := none }

def pool1 : Array CpInfo := pool [(2, .class_ 4), (1, u "java/lang/Object"), (0, u "<init>"), (0, u "()V"), (0, .integer 65535), (0, .methodref 9 10), (0, .class_ 11), (0, .nameAndType 12 13), (0, u "com/example/deferline/deferline/io/Formats"), (0, u "isDigit"), (0, u "(C)Z"), (0, .class_ 15), (0, u "com/example/deferline/deferline/io/FormatsIsDigitPinLaw"), (2, u "law"), (0, u "(I)Z")] 3

def k1m0 : Method := { name := "<init>", desc := "()V", sig := { parameters := [], returnType := none }, accessFlags := 2, code := none }
def k1c1 : Code := { maxStack := 2, maxLocals := 3, code := code, exceptionTable := #[], attributes := #[] }
def k1m1 : Method := { name := "law", desc := "(I)Z", sig := { parameters := [.int], returnType := some .boolean }, accessFlags := 9, code := some k1c1 }
/-- com/example/deferline/deferline/io/FormatsIsDigitPinLaw -/
def k1 : Class := { plain "com/example/deferline/deferline/io/FormatsIsDigitPinLaw" (some 0) with
  accessFlags := 49
  interfaces := #[]
  cf := some (fileOf pool1 14 #[] #[{ accessFlags := 2, nameIndex := 5, descriptorIndex := 6, attributes := #[] }, { accessFlags := 9, nameIndex := 18, descriptorIndex := 19, attributes := #[] }] 49 2 #[] #[])
  fields := #[]
  methods := #[k1m0, k1m1]
  instanceTypes := #[]
  staticTypes := #[]
  resolved := Array.replicate 23 none
  statics := none }

def pool2 : Array CpInfo := pool [(2, .class_ 4), (1, u "java/lang/Object"), (0, u "<init>"), (0, u "()V"), (12, .class_ 21), (1, u "com/example/deferline/deferline/io/Formats"), (90, u "isDigit"), (0, u "(C)Z"), (24, u "DATE_EXPECTED"), (0, u "Ljava/lang/String;"), (3, u "PERCENT_DECIMALS"), (0, u "I"), (1, u "MAX_YEAR"), (1, u "DATE_FORM")] 29

def k2m0 : Method := { name := "<init>", desc := "()V", sig := { parameters := [], returnType := none }, accessFlags := 2, code := none }
def k2c1 : Code := { maxStack := 2, maxLocals := 1, code := prog_30_method_12_code, exceptionTable := #[], attributes := #[] }
def k2m1 : Method := { name := "isDigit", desc := "(C)Z", sig := { parameters := [.char], returnType := some .boolean }, accessFlags := 9, code := some k2c1 }
/-- com/example/deferline/deferline/io/Formats -/
def k2 : Class := { plain "com/example/deferline/deferline/io/Formats" (some 0) with
  accessFlags := 33
  interfaces := #[]
  cf := some (fileOf pool2 19 #[] #[{ accessFlags := 2, nameIndex := 5, descriptorIndex := 6, attributes := #[] }, { accessFlags := 9, nameIndex := 112, descriptorIndex := 113, attributes := #[] }] 33 2 #[] #[{ accessFlags := 24, nameIndex := 138, descriptorIndex := 139, attributes := #[] }, { accessFlags := 25, nameIndex := 143, descriptorIndex := 144, attributes := #[] }, { accessFlags := 25, nameIndex := 146, descriptorIndex := 144, attributes := #[] }, { accessFlags := 26, nameIndex := 148, descriptorIndex := 139, attributes := #[] }])
  fields := #[{ name := "DATE_EXPECTED", type := (.object "java/lang/String"), accessFlags := 24, slot := 0, constantValue := 0 }, { name := "PERCENT_DECIMALS", type := .int, accessFlags := 25, slot := 1, constantValue := 0 }, { name := "MAX_YEAR", type := .int, accessFlags := 25, slot := 2, constantValue := 0 }, { name := "DATE_FORM", type := (.object "java/lang/String"), accessFlags := 26, slot := 3, constantValue := 0 }]
  methods := #[k2m0, k2m1]
  instanceTypes := #[]
  staticTypes := #[(.object "java/lang/String"), .int, .int, (.object "java/lang/String")]
  resolved := Array.replicate 178 none
  statics := none }

def pool3 : Array CpInfo := pool [(1, u "java/lang/Cloneable"), (0, .class_ 1), (0, u "java/lang/Object"), (0, .class_ 3)] 3

/-- java/lang/Cloneable -/
def k3 : Class := { plain "java/lang/Cloneable" (some 0) with
  accessFlags := 1537
  interfaces := #[]
  cf := some (fileOf pool3 2 #[] #[] 1537 4 #[] #[])
  fields := #[]
  methods := #[]
  instanceTypes := #[]
  staticTypes := #[]
  resolved := Array.replicate 8 none
  statics := none }

def pool4 : Array CpInfo := pool [(1, u "java/io/Serializable"), (0, .class_ 1), (0, u "java/lang/Object"), (0, .class_ 3)] 3

/-- java/io/Serializable -/
def k4 : Class := { plain "java/io/Serializable" (some 0) with
  accessFlags := 1537
  interfaces := #[]
  cf := some (fileOf pool4 2 #[] #[] 1537 4 #[] #[])
  fields := #[]
  methods := #[]
  instanceTypes := #[]
  staticTypes := #[]
  resolved := Array.replicate 8 none
  statics := none }

/-- the primitive byte -/
def k5 : Class := { plain "byte" none with kind := .primitive 'B', accessFlags := 0x411 }
/-- [B -/
def k6 : Class := { plain "[B" (some 0) with kind := .array 5 .byte, interfaces := #[3, 4], accessFlags := 1041 }

/-- the primitive int -/
def k7 : Class := { plain "int" none with kind := .primitive 'I', accessFlags := 0x411 }
/-- [I -/
def k8 : Class := { plain "[I" (some 0) with kind := .array 7 .int, interfaces := #[3, 4], accessFlags := 1041 }

def heap : Heap := #[]
def classes : Array Class := #[k0, k1, k2, k3, k4, k5, k6, k7, k8]
def interned : List (Array UInt16 × Addr) := []
def slotsUsed : Nat := 0
def theMethod : MethodId := ⟨1, 1⟩
def args0 : Array Value := #[.int 5]
def aboutOver (below : List Frame) : State where
  vm := { classes := classes, interned := interned.toArray }
  heap := heap
  slotsUsed := slotsUsed
  threads := #[{ frames := .invoking theMethod args0 :: below }]
def below0 : List Frame := [.native { method := ⟨0, 0⟩, args := #[] }]
def about1 : State := aboutOver below0
def p0 : Program := .bare "" "" ""
def e0 : Env := launch0.env 0 0 0
theorem w_frames : about1.frames = Frame.invoking theMethod args0 :: below0 := rfl
set_option maxRecDepth 65536 in
theorem w_args : argsFit about1.vm theMethod args0 = true := by decide +kernel
set_option maxRecDepth 65536 in
theorem w_heap : heapFits about1 = true := by decide +kernel
set_option maxRecDepth 65536 in
theorem w_runnable : about1.curStatus? = some .runnable := by decide +kernel
set_option maxRecDepth 65536 in
theorem w_alone : about1.alone = true := by decide +kernel
set_option maxRecDepth 65536 in
theorem w_named : about1.methodNamed? x = some theMethod := by decide +kernel
set_option maxRecDepth 65536 in
theorem w_hears : about1.hears theMethod below0 = true := by decide +kernel
set_option maxRecDepth 65536 in
theorem w_ripe : about1.ripe theMethod args0 below0 = true := by decide +kernel
theorem w_running : about1.status = .running := rfl
set_option maxRecDepth 65536 in
theorem w_room : about1.hasRoom e0.platform room_1 = true :=
  launch0.hasRoom_least _ room_1 (by decide +kernel) (by decide +kernel) (by decide +kernel) (by decide +kernel) (by decide +kernel) (by decide +kernel)
theorem allAtoms_all (ts : List Jvm.Cond) (a : Array Jvm.Value) (st : Jvm.State) : (allAtoms ts).before a st = ts.all (fun c => c.before a st) := by
  induction ts with
  | nil => rfl
  | cons c t ih =>
    show (Jvm.Cond.and c (allAtoms t)).before a st = _
    rw [Jvm.Cond.before_and, ih, List.all_cons]
def words1 : List Jvm.Cond := Jvm.Cond.code x code maxLocals ret :: tables_1
/-- a 'code' word, met by the world's own term for the bytes: nothing is compared byte by byte -/
theorem code_word {y : MethodName} {bytes : ByteArray} {mx : Nat} {rt : Option FieldType} {a : Array Value} {s : State} {m : MethodId} {meth : Method} {c : Code} (h1 : s.methodNamed? y = some m) (h2 : s.vm.method? m = some meth) (h3 : meth.code = some c) (h4 : c.code = bytes)
    (h5 : (c.maxLocals == mx && c.exceptionTable.isEmpty && decide (c.maxStack ≤ mostOperands) && decide (meth.sig.returnType = rt) && !meth.locks && decide (parseMethodDescriptor y.desc = some meth.sig)) = true) : (Jvm.Cond.code y bytes mx rt).before a s = true := by
  simp only [Bool.and_eq_true, beq_iff_eq, Bool.not_eq_true', decide_eq_true_eq] at h5
  obtain ⟨⟨⟨⟨⟨g1, g2⟩, g3⟩, g4⟩, g5⟩, g6⟩ := h5
  simp [Cond.before, Cond.holds, Cond.value, h1, h2, h3, h4, g1, g2, g3, g4, g5, g6]
def isCode : Jvm.Cond → Bool
  | .code _ _ _ _ => true
  | _ => false
theorem all_split {L : List Jvm.Cond} {P : Jvm.Cond → Bool} (h1 : L.all (fun c => isCode c || P c) = true) (h2 : ∀ c ∈ L.filter isCode, P c = true) : L.all P = true := by
  refine List.all_eq_true.mpr fun c hc => ?_
  have h := List.all_eq_true.mp h1 c hc
  rcases Bool.eq_false_or_eq_true (isCode c) with hi | hi
  · exact h2 c (List.mem_filter.mpr ⟨hc, hi⟩)
  · simpa [hi] using h
set_option maxRecDepth 65536 in
theorem w_c0 : (Jvm.Cond.code x code maxLocals ret).before args0 about1 = true := code_word (m := ⟨1, 1⟩) (meth := k1m1) (c := k1c1) (by decide +kernel) rfl rfl rfl (by decide +kernel)
set_option maxRecDepth 65536 in
theorem w_c1 : (Jvm.Cond.code ({ cls := "com/example/deferline/deferline/io/Formats", name := "isDigit", desc := "(C)Z" } : Jvm.MethodName) prog_30_method_12_code (1 : Nat) (Option.some Jvm.ClassFile.FieldType.boolean)).before args0 about1 = true := code_word (m := ⟨2, 1⟩) (meth := k2m1) (c := k2c1) (by decide +kernel) rfl rfl rfl (by decide +kernel)
def codes1 : List Jvm.Cond := [Jvm.Cond.code x code maxLocals ret, Jvm.Cond.code ({ cls := "com/example/deferline/deferline/io/Formats", name := "isDigit", desc := "(C)Z" } : Jvm.MethodName) prog_30_method_12_code (1 : Nat) (Option.some Jvm.ClassFile.FieldType.boolean)]
set_option maxRecDepth 65536 in
theorem codes_eq : words1.filter isCode = codes1 := rfl
theorem w_codes : ∀ c ∈ words1.filter isCode, c.before args0 about1 = true := by
  rw [codes_eq]
  intro c hc
  simp only [codes1, List.mem_cons, List.not_mem_nil, or_false] at hc
  rcases hc with rfl | rfl
  · exact w_c0
  · exact w_c1
set_option maxRecDepth 65536 in
theorem w_t1 : words1.all (fun c => isCode c || c.before args0 about1) = true := by decide +kernel
theorem w_tables : (allAtoms (Jvm.Cond.code x code maxLocals ret :: tables_1)).before args0 about1 = true := by
  rw [allAtoms_all]
  show words1.all (fun c => c.before args0 about1) = true
  refine all_split ?_ w_codes
  rw [w_t1]
set_option maxRecDepth 65536 in
theorem w_case : (Jvm.Cond.and given_1 narrow_1).before args0 about1 = true := by decide +kernel
theorem w_applies : (headSpec (Jvm.Cond.code x code maxLocals ret :: tables_1) room_1).applies x e0.platform about1 = true :=
  (Spec.applies_iff w_frames).mpr ⟨w_running, w_runnable, w_alone, w_named, w_hears, w_ripe, w_room, w_tables⟩
theorem atStart : AtStart classFile x code maxLocals ret World_1 tables_1 room_1 Calls_1 rest_1 Pre_1 launch0 p0 e0 about1 theMethod args0 below0 :=
  ⟨lists_1, trivial, launch0.admits_env _ _ _, launch0.least_env, fairChoices_fair.cas, fairChoices_fair.clock, w_frames, w_args, w_heap, w_applies, trivial, trivial, w_case⟩
end start1
theorem witness_1 : WitnessClaimed_1 := ⟨start1.p0, start1.e0, start1.about1, start1.theMethod, start1.args0, start1.below0, start1.atStart⟩
end Jvm.Pilot.@@N@@
