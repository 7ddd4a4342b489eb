import JvmDerived
import JvmDerived.Pilot.@@N@@Statement
import JvmDerived.Pilot.@@N@@Code
set_option linter.unusedVariables false
set_option linter.unusedSimpArgs false
namespace Jvm.RoadKit
open Sem ClassFile Op Lib Jvm.Stand Jvm.Free Jvm.LawKit
section New
variable {p : Program} {l : Launch} {e : Env} {R : Room} {s : State} {m : MethodId} {args : Array Value} {below : List Frame} {meth : Method} {c : Code} {T : State} {locs : List Loc} {cells slots : Nat}
theorem retI (X : Stand p l e R s m args below meth c T locs cells slots) (hx : p.tables.exec = Jvm.exec) {pc : Nat} {Ls : Array Slot} {z : Int32} {rest : List Value} (hret : meth.sig.returnType = some .int) (hd : decode c.code pc = .ok (.ireturn, 1)) {fs : List Frame}
    (hl : ∀ (f : JFrame) (acts : List Action), f.method = m → f.locked = none → f.entered = [] → (doReturn e (T.setTop f) acts (some (.int z))).1 = T.setFrames fs) : Steps p.tables e below (T.setTop (mkF m pc Ls (.int z :: rest))) (T.setFrames fs) := by
  have hm' : T.vm.method? m = some meth := X.method'
  have hn : narrow .int (.int z) = .int z := rfl
  show Steps p.tables e below (T.setTop { method := m, pc := pc, locals := Ls, stack := _ :: rest, locked := none }) _
  jvm_step X.here [X.here.top, hx, hd, hm', hret, hn]
  first | (intro acts; rw [hl _ acts rfl rfl rfl]) | rw [hl _ _ rfl rfl rfl]
  exact Steps.refl _
end New
end Jvm.RoadKit
namespace Jvm.Pilot.@@N@@
open Jvm Jvm.ClassFile Sem Op Lib Jvm.Free Jvm.Stand Jvm.LawKit Jvm.RoadKit Bundle Jvm.Pilot.@@N@@.Jvm.D
/-- from the state T the run comes to a state of which K holds -/
def own_Go (p : Program) (e : Env) (below : List Frame) (K : State → Prop) (T : State) : Prop := ∃ t, Steps p.tables e below T t ∧ K t
theorem own_st {p : Program} {e : Env} {below : List Frame} {K : State → Prop} {T T' : State} (h : ∀ t, Steps p.tables e below T' t → Steps p.tables e below T t) (g : own_Go p e below K T') : own_Go p e below K T := by
  obtain ⟨t, a, b⟩ := g; exact ⟨t, h t a, b⟩
theorem own_tr {p : Program} {e : Env} {below : List Frame} {K : State → Prop} {T T' : State} (h : Steps p.tables e below T T') (g : own_Go p e below K T') : own_Go p e below K T := by
  obtain ⟨t, a, b⟩ := g; exact ⟨t, h.trans a, b⟩
theorem own_lrem {tb : Tables} [Ours tb] {e : Env} {below : List Frame} {T target : State} {m : MethodId} {c : Code} {g : JFrame} (h : At T m c below) (hx : tb.exec = Jvm.exec) (hg : g.method = m) {x y : Int64} {rest : List Value} (hd : decode c.code g.pc = .ok (.lrem, 1)) (hs : g.stack = .long y :: .long x :: rest) (hy : y ≠ 0)
    (hr : Steps tb e below (T.setTop { g with pc := g.pc + 1, stack := .long (x % y) :: rest }) target) : Steps tb e below (T.setTop g) target := by
  have q : x - x / y * y = x % y := lrem_mod x y
  exact XS.lrem h hx hg hd hs hy (by rw [q]; exact hr)
/-- a boolean's worth: 1 where P holds, 0 where it doesn't -/
def own_B (P : Prop) (r : Int32) : Prop := (r = 1 ∧ P) ∨ (r = 0 ∧ ¬ P)
theorem own_B.yes {P : Prop} {r : Int32} (e : r = 1) (h : P) : own_B P r := Or.inl ⟨e, h⟩
theorem own_B.no {P : Prop} {r : Int32} (e : r = 0) (h : ¬ P) : own_B P r := Or.inr ⟨e, h⟩
theorem own_B.same {P Q : Prop} {r v : Int32} (a : own_B P r) (b : own_B Q v) (h : P ↔ Q) : r = v := by
  rcases a with ⟨rfl, p⟩ | ⟨rfl, p⟩ <;> rcases b with ⟨rfl, q⟩ | ⟨rfl, q⟩
  · rfl
  · exact absurd (h.mp p) q
  · exact absurd (h.mpr q) p
  · rfl
theorem own_B.one {P : Prop} {r : Int32} (a : own_B P r) (h : P) : r = 1 := by
  rcases a with ⟨rfl, p⟩ | ⟨rfl, p⟩
  · rfl
  · exact absurd h p
theorem own_B.zero {P : Prop} {r : Int32} (a : own_B P r) (h : ¬ P) : r = 0 := by
  rcases a with ⟨rfl, p⟩ | ⟨rfl, p⟩
  · exact absurd p h
  · rfl
theorem own_B.ne0 {P : Prop} {r : Int32} (a : own_B P r) (h : P) : ¬ r = 0 := by rw [a.one h]; decide
theorem own_B.holds {P : Prop} {r : Int32} (a : own_B P r) (h : ¬ r = 0) : P := by
  rcases a with ⟨rfl, p⟩ | ⟨rfl, p⟩
  · exact p
  · exact absurd rfl h
theorem own_B.fails {P : Prop} {r : Int32} (a : own_B P r) (h : r = 0) : ¬ P := by
  rcases a with ⟨rfl, p⟩ | ⟨rfl, p⟩
  · exact absurd h (by decide)
  · exact p
theorem own_atJ (ws : List Int64) (i : Nat) : (ws.map Value.long).getD i (.long (0 : Int64)) = .long (ws.getD i 0) := by
  simp only [List.getD, List.getElem?_map]; cases ws[i]? <;> rfl
theorem own_atI (ws : List Int32) (i : Nat) : (ws.map Value.int).getD i (.int (0 : Int32)) = .int (ws.getD i 0) := by
  simp only [List.getD, List.getElem?_map]; cases ws[i]? <;> rfl
theorem own_selp {Z s : State} {a0 args : Array Value} {y : MethodName} {n : Nat} (hZ : Z.Warmed39 s.vm) (wi : (Jvm.Cond.instantiable y.cls n).before a0 Z = true) (wm : (Jvm.Cond.instanceMethod y).before a0 Z = true) (wp : (Jvm.Cond.privateMethod y).before a0 Z = true) (hy : y.cls ≠ "java/lang/invoke/MethodHandle" ∧ y.cls ≠ "java/lang/invoke/VarHandle") : (Jvm.Cond.selects y.cls y y).before args s = true := by
  have w1 : (Jvm.Cond.instantiable y.cls n).before args s = true := mvT hZ wi
  obtain ⟨c, k, h1, h2, h3, h4, -⟩ := Cond.instantiable_spec w1
  have h5 : k.isInterface = false := by cases hq : k.isInterface <;> simp [hq] at h4 ⊢
  exact selects_self_of_private h1 h2 h5 (Cond.privateMethod_at (mvP hZ wp (args := args))) (mvT hZ wm) hy
theorem own_hat {T : State} {h : Heap} {a : Addr} {c : Cell} (e : T.heap = h) (q : h[a]? = some c) : T.heap[a]? = some c := by rw [e]; exact q
theorem own_nn (x : Int32) : nar .byte (nar .byte x) = nar .byte x := by
  refine Int32.toInt_inj.mp ?_
  have a := c_i2b x
  have b := c_i2b x.toInt8.toInt32
  show x.toInt8.toInt32.toInt8.toInt32.toInt = x.toInt8.toInt32.toInt
  omega
theorem own_nb (x : Int32) : nar .byte x.toInt8.toInt32 = x.toInt8.toInt32 := own_nn x
theorem own_fit {x : Int32} (h : nar .byte x = x) : fits .byte (.int x) = true := by rw [← h]; exact fits_nar_byte x
theorem own_cl {j : Int32} {i : Nat} (h : j.toInt = (i : Int)) : j.toNatClampNeg = i := by rw [Int32.toNatClampNeg, h]; rfl
theorem own_lt {a b : Int32} (h : a.toInt < b.toInt) : a < b := Int32.lt_iff_toInt_lt.mpr h
theorem own_nlt {a b : Int32} (h : b.toInt ≤ a.toInt) : ¬ a < b := fun q => absurd (Int32.lt_iff_toInt_lt.mp q) (by omega)
theorem own_ltI {a b : Int32} (h : a < b) : a.toInt < b.toInt := Int32.lt_iff_toInt_lt.mp h
theorem own_nltI {a b : Int32} (h : ¬ a < b) : b.toInt ≤ a.toInt := by have := mt Int32.lt_iff_toInt_lt.mpr h; omega
theorem own_neI {a b : Int32} (h : ¬ a = b) : ¬ a.toInt = b.toInt := fun q => h (Int32.toInt_inj.mp q)
theorem own_ltL {a b : Int64} (h : a < b) : a.toInt < b.toInt := Int64.lt_iff_toInt_lt.mp h
theorem own_nltL {a b : Int64} (h : ¬ a < b) : b.toInt ≤ a.toInt := by have := mt Int64.lt_iff_toInt_lt.mpr h; omega
theorem own_neL {a b : Int64} (h : ¬ a = b) : ¬ a.toInt = b.toInt := fun q => h (Int64.toInt_inj.mp q)
def own_ttl (s : Int64) : Prop := s = -1 ∨ (¬ s < 1 ∧ ¬ (2147483647 : Int64) < s)
theorem own_t {s : Int64} (h : s.toInt = -1 ∨ (1 ≤ s.toInt ∧ s.toInt ≤ 2147483647)) : own_ttl s := by
  rcases h with h | h
  · exact Or.inl (Int64.toInt_inj.mp h)
  · refine Or.inr ⟨fun q => ?_, fun q => ?_⟩
    · have q' : s.toInt < (1 : Int) := own_ltL q
      omega
    · have q' : (2147483647 : Int) < s.toInt := own_ltL q
      omega
theorem own_ti {s : Int64} (h : own_ttl s) : s.toInt = -1 ∨ (1 ≤ s.toInt ∧ s.toInt ≤ 2147483647) := by
  rcases h with h | ⟨a, b⟩
  · rw [h]; exact Or.inl (by decide)
  · have a' : (1 : Int) ≤ s.toInt := own_nltL a
    have b' : s.toInt ≤ (2147483647 : Int) := own_nltL b
    exact Or.inr ⟨a', b'⟩
theorem own_ra {s : Int64} (h : ¬ s.toInt32.toInt64 = s) : ¬ own_ttl s := fun q => by
  have h' := own_neL h
  rw [c_i2l] at h'
  have e := c_l2i s
  have r := rng32 s.toInt32
  have q' := own_ti q
  omega
theorem own_rb {s : Int64} (h : s.toInt32.toInt64 = s) (h1 : s.toInt32 = (-1 : Int32)) : own_ttl s := by
  have e : s.toInt32.toInt = s.toInt := by rw [← c_i2l, h]
  rw [h1] at e
  exact own_t (Or.inl e.symm)
theorem own_rc {s : Int64} (h : s.toInt32.toInt64 = s) (h1 : (0 : Int32) < s.toInt32) : own_ttl s := by
  have e : s.toInt32.toInt = s.toInt := by rw [← c_i2l, h]
  have a : (0 : Int) < s.toInt32.toInt := own_ltI h1
  have r := rng32 s.toInt32
  exact own_t (Or.inr (by omega))
theorem own_rd {s : Int64} (h : s.toInt32.toInt64 = s) (h1 : ¬ s.toInt32 = (-1 : Int32)) (h2 : ¬ (0 : Int32) < s.toInt32) : ¬ own_ttl s := fun q => by
  have e : s.toInt32.toInt = s.toInt := by rw [← c_i2l, h]
  have a : s.toInt32.toInt ≤ (0 : Int) := own_nltI h2
  have b : ¬ s.toInt32.toInt = (-1 : Int) := own_neI h1
  have q' := own_ti q
  omega
theorem d1_0 : decode method_4_code 0 = .ok (.iload_n 0, 1) := by decide +kernel
theorem d1_1 : decode method_4_code 1 = .ok (.ifCond .ne 7, 3) := by decide +kernel
theorem d1_4 : decode method_4_code 4 = .ok (.ldc2_w 22, 3) := by decide +kernel
theorem d1_7 : decode method_4_code 7 = .ok (.lreturn, 1) := by decide +kernel
theorem d1_8 : decode method_4_code 8 = .ok (.iload_n 0, 1) := by decide +kernel
theorem d1_9 : decode method_4_code 9 = .ok (.iconst 1, 1) := by decide +kernel
theorem d1_10 : decode method_4_code 10 = .ok (.if_icmp .ne 7, 3) := by decide +kernel
theorem d1_13 : decode method_4_code 13 = .ok (.ldc2_w 24, 3) := by decide +kernel
theorem d1_16 : decode method_4_code 16 = .ok (.lreturn, 1) := by decide +kernel
theorem d1_17 : decode method_4_code 17 = .ok (.iload_n 0, 1) := by decide +kernel
theorem d1_18 : decode method_4_code 18 = .ok (.iconst 2, 1) := by decide +kernel
theorem d1_19 : decode method_4_code 19 = .ok (.if_icmp .ne 5, 3) := by decide +kernel
theorem d1_22 : decode method_4_code 22 = .ok (.lconst 0, 1) := by decide +kernel
theorem d1_23 : decode method_4_code 23 = .ok (.lreturn, 1) := by decide +kernel
theorem d1_24 : decode method_4_code 24 = .ok (.iload_n 0, 1) := by decide +kernel
theorem d1_25 : decode method_4_code 25 = .ok (.iconst 3, 1) := by decide +kernel
theorem d1_26 : decode method_4_code 26 = .ok (.if_icmp .ne 5, 3) := by decide +kernel
theorem d1_29 : decode method_4_code 29 = .ok (.lconst 1, 1) := by decide +kernel
theorem d1_30 : decode method_4_code 30 = .ok (.lreturn, 1) := by decide +kernel
theorem d1_31 : decode method_4_code 31 = .ok (.iload_n 0, 1) := by decide +kernel
theorem d1_32 : decode method_4_code 32 = .ok (.iconst 4, 1) := by decide +kernel
theorem d1_33 : decode method_4_code 33 = .ok (.if_icmp .ne 7, 3) := by decide +kernel
theorem d1_36 : decode method_4_code 36 = .ok (.ldc2_w 26, 3) := by decide +kernel
theorem d1_39 : decode method_4_code 39 = .ok (.lreturn, 1) := by decide +kernel
theorem d1_40 : decode method_4_code 40 = .ok (.iload_n 0, 1) := by decide +kernel
theorem d1_41 : decode method_4_code 41 = .ok (.iconst 5, 1) := by decide +kernel
theorem d1_42 : decode method_4_code 42 = .ok (.if_icmp .ne 7, 3) := by decide +kernel
theorem d1_45 : decode method_4_code 45 = .ok (.ldc2_w 28, 3) := by decide +kernel
theorem d1_48 : decode method_4_code 48 = .ok (.lreturn, 1) := by decide +kernel
theorem d1_49 : decode method_4_code 49 = .ok (.iload_n 0, 1) := by decide +kernel
theorem d1_50 : decode method_4_code 50 = .ok (.bipush 6, 2) := by decide +kernel
theorem d1_52 : decode method_4_code 52 = .ok (.if_icmp .ne 7, 3) := by decide +kernel
theorem d1_55 : decode method_4_code 55 = .ok (.ldc2_w 32, 3) := by decide +kernel
theorem d1_58 : decode method_4_code 58 = .ok (.lreturn, 1) := by decide +kernel
theorem d1_59 : decode method_4_code 59 = .ok (.ldc2_w 34, 3) := by decide +kernel
theorem d1_62 : decode method_4_code 62 = .ok (.lreturn, 1) := by decide +kernel
theorem pn_1 : plainName "com/example/expire_then_sweep/expirethensweep/model/ContainerSettingsIsTimeToLivePinLaw" = true := by first | (simp [plainName, overriddenIn]; done) | decide +kernel
theorem ef_1 (m : MethodId) (x0 : Int32) : entryFrame m #[(.int x0)] 1 = mkF m 0 #[.val (.int x0)] [] := by first | (simp [entryFrame, mkF, argsToLocals, Value.category]; done) | rfl
def Q1 (Z : State) (p1 : Int32) (h0 : Heap) (n0 : Nat) (v : Option Value) (h : Heap) (L : List Loc) : Prop := ∃ (r : Int64), v = some (.long r) ∧ (True) ∧ Fr n0 L ∧ h = h0
set_option maxRecDepth 65536 in
set_option maxHeartbeats 40000000 in
theorem rm1 (l : Launch) (Z : State) (a0 : Array Value) (hw : ∀ d ∈ tables_1, d.before a0 Z = true) (ws : List Jvm.Cond) (p1 : Int32) (h0 : Heap) (n0 : Nat) (Z0 : n0 ≤ h0.size)  :
    MetFree l (⟨"com/example/expire_then_sweep/expirethensweep/model/ContainerSettingsIsTimeToLivePinLaw", "boundary", "(I)J"⟩ : MethodName) (head1 (Jvm.Cond.code (⟨"com/example/expire_then_sweep/expirethensweep/model/ContainerSettingsIsTimeToLivePinLaw", "boundary", "(I)J"⟩ : MethodName) method_4_code 1 (some .long) :: ws) ({ frames := 0, cells := 0, slots := 0, locals := 0 } : Room)) (fun a U => a = #[(.int p1)] ∧ Z.Warmed39 U.vm ∧ U.heap = h0) (fun _ _ _ _ _ => True) (fun _ U o U' => ∃ v L, o = .returned v ∧ Q1 Z p1 h0 n0 v U'.heap L ∧ FrameEnd U o U' L ({ frames := 0, cells := 0, slots := 0, locals := 0 } : Room).cells ({ frames := 0, cells := 0, slots := 0, locals := 0 } : Room).slots) := by
  refine MetFree.of_bodySF (plainFor_of_name pn_1) hisR ?_
  intro p e s m args below meth c s₁ Bd hml0 hP hK
  obtain ⟨rfl, hZ, hh⟩ := hP
  have hx := Bd.exec
  have hby := Bd.bytes
  have hml : c.maxLocals = 1 := hml0
  have hown : s.vm.findClass "com/example/expire_then_sweep/expirethensweep/model/ContainerSettingsIsTimeToLivePinLaw" = some m.cls := findClass_of_methodNamed Bd.named
  have hnm := (name_of_methodNamed Bd.named Bd.method).1
  have X0 : Stand p l e ({ frames := 0, cells := 0, slots := 0, locals := 0 } : Room) s m #[(.int p1)] below meth c s₁ [] 0 0 := Stand.of_body Bd
  have e0 : s₁.heap = h0 := by rw [← hh, Bd.state]; rfl
  have N0 := Fr.nil n0
  suffices G0 : ∀ K : State → Prop, (∀ (n : State) (v : Option Value) (L : List Loc), n.status = .running → Ended n below (.returned v) → Q1 Z p1 h0 n0 v n.heap L → FrameEnd s (.returned v) n L ({ frames := 0, cells := 0, slots := 0, locals := 0 } : Room).cells ({ frames := 0, cells := 0, slots := 0, locals := 0 } : Room).slots → K n) → own_Go p e below K (s₁.setTop (mkF m 0 #[.val (.int p1)] [])) by
    obtain ⟨t, st, o, a, b, v, L, e1, q, fe⟩ := G0 (fun n => ∃ o, n.status = .running ∧ Ended n below o ∧ ∃ v L, o = .returned v ∧ Q1 Z p1 h0 n0 v n.heap L ∧ FrameEnd s o n L ({ frames := 0, cells := 0, slots := 0, locals := 0 } : Room).cells ({ frames := 0, cells := 0, slots := 0, locals := 0 } : Room).slots) (fun n v L a b q f => ⟨_, a, b, v, L, rfl, q, f⟩)
    exact ⟨t, o, castTop (ef_1 m p1) st, a, b, v, L, e1, q, fe⟩
  intro K fin
  show own_Go p e below K (s₁.setTop (mkF m 0 #[.val (.int p1)] []))
  refine own_st (fun t k => XS.iloadN X0.here hx rfl (hb hby d1_0) rfl k) ?_
  show own_Go p e below K (s₁.setTop (mkF m 1 #[.val (.int p1)] [(.int p1)]))
  by_cases hc1 : p1 = (0 : Int32)
  · refine own_st (fun t k => XS.ifNo X0.here hx rfl (hb hby d1_1) rfl ((if0 _ _).trans (teq hc1).2) k) ?_
    show own_Go p e below K (s₁.setTop (mkF m 4 #[.val (.int p1)] []))
    refine own_st (X0.ldc2Long hx hown (mvT hZ (hw _ (List.mem_of_getElem? (i := 16) rfl))) (g := (mkF m 4 #[.val (.int p1)] [])) rfl (hb hby d1_4)) ?_
    show own_Go p e below K (s₁.setTop (mkF m 7 #[.val (.int p1)] [(.long (-2 : Int64))]))
    obtain ⟨fs, hr, hrun, hended, hW, hsame⟩ := X0.leave (v := some (.long (-2 : Int64))) (fun h => by rw [Bd.returns] at h; cases h)
    refine ⟨_, X0.lreturnOut hx Bd.returns (hb hby d1_7) hr, fin _ _ _ hrun hended ?_ ⟨⟨_, rfl⟩, hW, hsame.mono (by decide) (by decide)⟩⟩
    show Q1 Z p1 h0 n0 _ s₁.heap _
    rw [e0]
    exact ⟨_, rfl, trivial, N0, rfl⟩
  refine own_st (fun t k => XS.ifYes X0.here hx rfl (pc0 := 1) (pc' := 8) rfl (hb hby d1_1) rfl ((if0 _ _).trans (feq hc1).2) (by decide) (by decide) k) ?_
  show own_Go p e below K (s₁.setTop (mkF m 8 #[.val (.int p1)] []))
  refine own_st (fun t k => XS.iloadN X0.here hx rfl (hb hby d1_8) rfl k) ?_
  show own_Go p e below K (s₁.setTop (mkF m 9 #[.val (.int p1)] [(.int p1)]))
  refine own_st (fun t k => XS.iconst X0.here hx rfl (hb hby d1_9) k) ?_
  show own_Go p e below K (s₁.setTop (mkF m 10 #[.val (.int p1)] [(.int (1 : Int32)), (.int p1)]))
  by_cases hc10 : p1 = (1 : Int32)
  · refine own_st (fun t k => XS.icmpNo X0.here hx rfl (hb hby d1_10) rfl (teq hc10).2 k) ?_
    show own_Go p e below K (s₁.setTop (mkF m 13 #[.val (.int p1)] []))
    refine own_st (X0.ldc2Long hx hown (mvT hZ (hw _ (List.mem_of_getElem? (i := 17) rfl))) (g := (mkF m 13 #[.val (.int p1)] [])) rfl (hb hby d1_13)) ?_
    show own_Go p e below K (s₁.setTop (mkF m 16 #[.val (.int p1)] [(.long (-1 : Int64))]))
    obtain ⟨fs, hr, hrun, hended, hW, hsame⟩ := X0.leave (v := some (.long (-1 : Int64))) (fun h => by rw [Bd.returns] at h; cases h)
    refine ⟨_, X0.lreturnOut hx Bd.returns (hb hby d1_16) hr, fin _ _ _ hrun hended ?_ ⟨⟨_, rfl⟩, hW, hsame.mono (by decide) (by decide)⟩⟩
    show Q1 Z p1 h0 n0 _ s₁.heap _
    rw [e0]
    exact ⟨_, rfl, trivial, N0, rfl⟩
  refine own_st (fun t k => XS.icmpYes X0.here hx rfl (pc0 := 10) (pc' := 17) rfl (hb hby d1_10) rfl (feq hc10).2 (by decide) (by decide) k) ?_
  show own_Go p e below K (s₁.setTop (mkF m 17 #[.val (.int p1)] []))
  refine own_st (fun t k => XS.iloadN X0.here hx rfl (hb hby d1_17) rfl k) ?_
  show own_Go p e below K (s₁.setTop (mkF m 18 #[.val (.int p1)] [(.int p1)]))
  refine own_st (fun t k => XS.iconst X0.here hx rfl (hb hby d1_18) k) ?_
  show own_Go p e below K (s₁.setTop (mkF m 19 #[.val (.int p1)] [(.int (2 : Int32)), (.int p1)]))
  by_cases hc19 : p1 = (2 : Int32)
  · refine own_st (fun t k => XS.icmpNo X0.here hx rfl (hb hby d1_19) rfl (teq hc19).2 k) ?_
    show own_Go p e below K (s₁.setTop (mkF m 22 #[.val (.int p1)] []))
    refine own_st (fun t k => XS.lconst X0.here hx rfl (hb hby d1_22) k) ?_
    show own_Go p e below K (s₁.setTop (mkF m 23 #[.val (.int p1)] [(.long (0 : Int64))]))
    obtain ⟨fs, hr, hrun, hended, hW, hsame⟩ := X0.leave (v := some (.long (0 : Int64))) (fun h => by rw [Bd.returns] at h; cases h)
    refine ⟨_, X0.lreturnOut hx Bd.returns (hb hby d1_23) hr, fin _ _ _ hrun hended ?_ ⟨⟨_, rfl⟩, hW, hsame.mono (by decide) (by decide)⟩⟩
    show Q1 Z p1 h0 n0 _ s₁.heap _
    rw [e0]
    exact ⟨_, rfl, trivial, N0, rfl⟩
  refine own_st (fun t k => XS.icmpYes X0.here hx rfl (pc0 := 19) (pc' := 24) rfl (hb hby d1_19) rfl (feq hc19).2 (by decide) (by decide) k) ?_
  show own_Go p e below K (s₁.setTop (mkF m 24 #[.val (.int p1)] []))
  refine own_st (fun t k => XS.iloadN X0.here hx rfl (hb hby d1_24) rfl k) ?_
  show own_Go p e below K (s₁.setTop (mkF m 25 #[.val (.int p1)] [(.int p1)]))
  refine own_st (fun t k => XS.iconst X0.here hx rfl (hb hby d1_25) k) ?_
  show own_Go p e below K (s₁.setTop (mkF m 26 #[.val (.int p1)] [(.int (3 : Int32)), (.int p1)]))
  by_cases hc26 : p1 = (3 : Int32)
  · refine own_st (fun t k => XS.icmpNo X0.here hx rfl (hb hby d1_26) rfl (teq hc26).2 k) ?_
    show own_Go p e below K (s₁.setTop (mkF m 29 #[.val (.int p1)] []))
    refine own_st (fun t k => XS.lconst X0.here hx rfl (hb hby d1_29) k) ?_
    show own_Go p e below K (s₁.setTop (mkF m 30 #[.val (.int p1)] [(.long (1 : Int64))]))
    obtain ⟨fs, hr, hrun, hended, hW, hsame⟩ := X0.leave (v := some (.long (1 : Int64))) (fun h => by rw [Bd.returns] at h; cases h)
    refine ⟨_, X0.lreturnOut hx Bd.returns (hb hby d1_30) hr, fin _ _ _ hrun hended ?_ ⟨⟨_, rfl⟩, hW, hsame.mono (by decide) (by decide)⟩⟩
    show Q1 Z p1 h0 n0 _ s₁.heap _
    rw [e0]
    exact ⟨_, rfl, trivial, N0, rfl⟩
  refine own_st (fun t k => XS.icmpYes X0.here hx rfl (pc0 := 26) (pc' := 31) rfl (hb hby d1_26) rfl (feq hc26).2 (by decide) (by decide) k) ?_
  show own_Go p e below K (s₁.setTop (mkF m 31 #[.val (.int p1)] []))
  refine own_st (fun t k => XS.iloadN X0.here hx rfl (hb hby d1_31) rfl k) ?_
  show own_Go p e below K (s₁.setTop (mkF m 32 #[.val (.int p1)] [(.int p1)]))
  refine own_st (fun t k => XS.iconst X0.here hx rfl (hb hby d1_32) k) ?_
  show own_Go p e below K (s₁.setTop (mkF m 33 #[.val (.int p1)] [(.int (4 : Int32)), (.int p1)]))
  by_cases hc33 : p1 = (4 : Int32)
  · refine own_st (fun t k => XS.icmpNo X0.here hx rfl (hb hby d1_33) rfl (teq hc33).2 k) ?_
    show own_Go p e below K (s₁.setTop (mkF m 36 #[.val (.int p1)] []))
    refine own_st (X0.ldc2Long hx hown (mvT hZ (hw _ (List.mem_of_getElem? (i := 13) rfl))) (g := (mkF m 36 #[.val (.int p1)] [])) rfl (hb hby d1_36)) ?_
    show own_Go p e below K (s₁.setTop (mkF m 39 #[.val (.int p1)] [(.long (2147483647 : Int64))]))
    obtain ⟨fs, hr, hrun, hended, hW, hsame⟩ := X0.leave (v := some (.long (2147483647 : Int64))) (fun h => by rw [Bd.returns] at h; cases h)
    refine ⟨_, X0.lreturnOut hx Bd.returns (hb hby d1_39) hr, fin _ _ _ hrun hended ?_ ⟨⟨_, rfl⟩, hW, hsame.mono (by decide) (by decide)⟩⟩
    show Q1 Z p1 h0 n0 _ s₁.heap _
    rw [e0]
    exact ⟨_, rfl, trivial, N0, rfl⟩
  refine own_st (fun t k => XS.icmpYes X0.here hx rfl (pc0 := 33) (pc' := 40) rfl (hb hby d1_33) rfl (feq hc33).2 (by decide) (by decide) k) ?_
  show own_Go p e below K (s₁.setTop (mkF m 40 #[.val (.int p1)] []))
  refine own_st (fun t k => XS.iloadN X0.here hx rfl (hb hby d1_40) rfl k) ?_
  show own_Go p e below K (s₁.setTop (mkF m 41 #[.val (.int p1)] [(.int p1)]))
  refine own_st (fun t k => XS.iconst X0.here hx rfl (hb hby d1_41) k) ?_
  show own_Go p e below K (s₁.setTop (mkF m 42 #[.val (.int p1)] [(.int (5 : Int32)), (.int p1)]))
  by_cases hc42 : p1 = (5 : Int32)
  · refine own_st (fun t k => XS.icmpNo X0.here hx rfl (hb hby d1_42) rfl (teq hc42).2 k) ?_
    show own_Go p e below K (s₁.setTop (mkF m 45 #[.val (.int p1)] []))
    refine own_st (X0.ldc2Long hx hown (mvT hZ (hw _ (List.mem_of_getElem? (i := 18) rfl))) (g := (mkF m 45 #[.val (.int p1)] [])) rfl (hb hby d1_45)) ?_
    show own_Go p e below K (s₁.setTop (mkF m 48 #[.val (.int p1)] [(.long (2147483648 : Int64))]))
    obtain ⟨fs, hr, hrun, hended, hW, hsame⟩ := X0.leave (v := some (.long (2147483648 : Int64))) (fun h => by rw [Bd.returns] at h; cases h)
    refine ⟨_, X0.lreturnOut hx Bd.returns (hb hby d1_48) hr, fin _ _ _ hrun hended ?_ ⟨⟨_, rfl⟩, hW, hsame.mono (by decide) (by decide)⟩⟩
    show Q1 Z p1 h0 n0 _ s₁.heap _
    rw [e0]
    exact ⟨_, rfl, trivial, N0, rfl⟩
  refine own_st (fun t k => XS.icmpYes X0.here hx rfl (pc0 := 42) (pc' := 49) rfl (hb hby d1_42) rfl (feq hc42).2 (by decide) (by decide) k) ?_
  show own_Go p e below K (s₁.setTop (mkF m 49 #[.val (.int p1)] []))
  refine own_st (fun t k => XS.iloadN X0.here hx rfl (hb hby d1_49) rfl k) ?_
  show own_Go p e below K (s₁.setTop (mkF m 50 #[.val (.int p1)] [(.int p1)]))
  refine own_st (fun t k => XS.bipush X0.here hx rfl (hb hby d1_50) k) ?_
  show own_Go p e below K (s₁.setTop (mkF m 52 #[.val (.int p1)] [(.int (6 : Int32)), (.int p1)]))
  by_cases hc52 : p1 = (6 : Int32)
  · refine own_st (fun t k => XS.icmpNo X0.here hx rfl (hb hby d1_52) rfl (teq hc52).2 k) ?_
    show own_Go p e below K (s₁.setTop (mkF m 55 #[.val (.int p1)] []))
    refine own_st (X0.ldc2Long hx hown (mvT hZ (hw _ (List.mem_of_getElem? (i := 15) rfl))) (g := (mkF m 55 #[.val (.int p1)] [])) rfl (hb hby d1_55)) ?_
    show own_Go p e below K (s₁.setTop (mkF m 58 #[.val (.int p1)] [(.long (-9223372036854775808 : Int64))]))
    obtain ⟨fs, hr, hrun, hended, hW, hsame⟩ := X0.leave (v := some (.long (-9223372036854775808 : Int64))) (fun h => by rw [Bd.returns] at h; cases h)
    refine ⟨_, X0.lreturnOut hx Bd.returns (hb hby d1_58) hr, fin _ _ _ hrun hended ?_ ⟨⟨_, rfl⟩, hW, hsame.mono (by decide) (by decide)⟩⟩
    show Q1 Z p1 h0 n0 _ s₁.heap _
    rw [e0]
    exact ⟨_, rfl, trivial, N0, rfl⟩
  refine own_st (fun t k => XS.icmpYes X0.here hx rfl (pc0 := 52) (pc' := 59) rfl (hb hby d1_52) rfl (feq hc52).2 (by decide) (by decide) k) ?_
  show own_Go p e below K (s₁.setTop (mkF m 59 #[.val (.int p1)] []))
  refine own_st (X0.ldc2Long hx hown (mvT hZ (hw _ (List.mem_of_getElem? (i := 14) rfl))) (g := (mkF m 59 #[.val (.int p1)] [])) rfl (hb hby d1_59)) ?_
  show own_Go p e below K (s₁.setTop (mkF m 62 #[.val (.int p1)] [(.long (9223372036854775807 : Int64))]))
  obtain ⟨fs, hr, hrun, hended, hW, hsame⟩ := X0.leave (v := some (.long (9223372036854775807 : Int64))) (fun h => by rw [Bd.returns] at h; cases h)
  refine ⟨_, X0.lreturnOut hx Bd.returns (hb hby d1_62) hr, fin _ _ _ hrun hended ?_ ⟨⟨_, rfl⟩, hW, hsame.mono (by decide) (by decide)⟩⟩
  show Q1 Z p1 h0 n0 _ s₁.heap _
  rw [e0]
  exact ⟨_, rfl, trivial, N0, rfl⟩
theorem d2_0 : decode prog_5_method_7_code 0 = .ok (.lload_n 0, 1) := by decide +kernel
theorem d2_1 : decode prog_5_method_7_code 1 = .ok (.ldc2_w 56, 3) := by decide +kernel
theorem d2_4 : decode prog_5_method_7_code 4 = .ok (.lcmp, 1) := by decide +kernel
theorem d2_5 : decode prog_5_method_7_code 5 = .ok (.ifCond .eq 17, 3) := by decide +kernel
theorem d2_8 : decode prog_5_method_7_code 8 = .ok (.lload_n 0, 1) := by decide +kernel
theorem d2_9 : decode prog_5_method_7_code 9 = .ok (.lconst 1, 1) := by decide +kernel
theorem d2_10 : decode prog_5_method_7_code 10 = .ok (.lcmp, 1) := by decide +kernel
theorem d2_11 : decode prog_5_method_7_code 11 = .ok (.ifCond .lt 15, 3) := by decide +kernel
theorem d2_14 : decode prog_5_method_7_code 14 = .ok (.lload_n 0, 1) := by decide +kernel
theorem d2_15 : decode prog_5_method_7_code 15 = .ok (.ldc2_w 58, 3) := by decide +kernel
theorem d2_18 : decode prog_5_method_7_code 18 = .ok (.lcmp, 1) := by decide +kernel
theorem d2_19 : decode prog_5_method_7_code 19 = .ok (.ifCond .gt 7, 3) := by decide +kernel
theorem d2_22 : decode prog_5_method_7_code 22 = .ok (.iconst 1, 1) := by decide +kernel
theorem d2_23 : decode prog_5_method_7_code 23 = .ok (.goto 4, 3) := by decide +kernel
theorem d2_26 : decode prog_5_method_7_code 26 = .ok (.iconst 0, 1) := by decide +kernel
theorem d2_27 : decode prog_5_method_7_code 27 = .ok (.ireturn, 1) := by decide +kernel
theorem pn_2 : plainName "com/example/expire_then_sweep/expirethensweep/model/ContainerSettings" = true := by first | (simp [plainName, overriddenIn]; done) | decide +kernel
theorem ef_2 (m : MethodId) (x0 : Int64) : entryFrame m #[(.long x0)] 2 = mkF m 0 #[.val (.long x0), .second] [] := by first | (simp [entryFrame, mkF, argsToLocals, Value.category]; done) | rfl
def Q2 (Z : State) (q1 : Int64) (h0 : Heap) (n0 : Nat) (v : Option Value) (h : Heap) (L : List Loc) : Prop := ∃ (r : Int32), v = some (.int r) ∧ (own_B (own_ttl q1) r) ∧ Fr n0 L ∧ h = h0
set_option maxRecDepth 65536 in
set_option maxHeartbeats 40000000 in
theorem rm2 (l : Launch) (Z : State) (a0 : Array Value) (hw : ∀ d ∈ tables_1, d.before a0 Z = true) (ws : List Jvm.Cond) (q1 : Int64) (h0 : Heap) (n0 : Nat) (Z0 : n0 ≤ h0.size)  :
    MetFree l (⟨"com/example/expire_then_sweep/expirethensweep/model/ContainerSettings", "isTimeToLive", "(J)Z"⟩ : MethodName) (head1 (Jvm.Cond.code (⟨"com/example/expire_then_sweep/expirethensweep/model/ContainerSettings", "isTimeToLive", "(J)Z"⟩ : MethodName) prog_5_method_7_code 2 (some .boolean) :: ws) ({ frames := 0, cells := 0, slots := 0, locals := 0 } : Room)) (fun a U => a = #[(.long q1)] ∧ Z.Warmed39 U.vm ∧ U.heap = h0) (fun _ _ _ _ _ => True) (fun _ U o U' => ∃ v L, o = .returned v ∧ Q2 Z q1 h0 n0 v U'.heap L ∧ FrameEnd U o U' L ({ frames := 0, cells := 0, slots := 0, locals := 0 } : Room).cells ({ frames := 0, cells := 0, slots := 0, locals := 0 } : Room).slots) := by
  refine MetFree.of_bodySF (plainFor_of_name pn_2) hisR ?_
  intro p e s m args below meth c s₁ Bd hml0 hP hK
  obtain ⟨rfl, hZ, hh⟩ := hP
  have hx := Bd.exec
  have hby := Bd.bytes
  have hml : c.maxLocals = 2 := hml0
  have hown : s.vm.findClass "com/example/expire_then_sweep/expirethensweep/model/ContainerSettings" = some m.cls := findClass_of_methodNamed Bd.named
  have hnm := (name_of_methodNamed Bd.named Bd.method).1
  have X0 : Stand p l e ({ frames := 0, cells := 0, slots := 0, locals := 0 } : Room) s m #[(.long q1)] below meth c s₁ [] 0 0 := Stand.of_body Bd
  have e0 : s₁.heap = h0 := by rw [← hh, Bd.state]; rfl
  have N0 := Fr.nil n0
  suffices G0 : ∀ K : State → Prop, (∀ (n : State) (v : Option Value) (L : List Loc), n.status = .running → Ended n below (.returned v) → Q2 Z q1 h0 n0 v n.heap L → FrameEnd s (.returned v) n L ({ frames := 0, cells := 0, slots := 0, locals := 0 } : Room).cells ({ frames := 0, cells := 0, slots := 0, locals := 0 } : Room).slots → K n) → own_Go p e below K (s₁.setTop (mkF m 0 #[.val (.long q1), .second] [])) by
    obtain ⟨t, st, o, a, b, v, L, e1, q, fe⟩ := G0 (fun n => ∃ o, n.status = .running ∧ Ended n below o ∧ ∃ v L, o = .returned v ∧ Q2 Z q1 h0 n0 v n.heap L ∧ FrameEnd s o n L ({ frames := 0, cells := 0, slots := 0, locals := 0 } : Room).cells ({ frames := 0, cells := 0, slots := 0, locals := 0 } : Room).slots) (fun n v L a b q f => ⟨_, a, b, v, L, rfl, q, f⟩)
    exact ⟨t, o, castTop (ef_2 m q1) st, a, b, v, L, e1, q, fe⟩
  intro K fin
  show own_Go p e below K (s₁.setTop (mkF m 0 #[.val (.long q1), .second] []))
  refine own_st (fun t k => XS.lloadN X0.here hx rfl (hb hby d2_0) rfl k) ?_
  show own_Go p e below K (s₁.setTop (mkF m 1 #[.val (.long q1), .second] [(.long q1)]))
  refine own_st (X0.ldc2Long hx hown (mvT hZ (hw _ (List.mem_of_getElem? (i := 8) rfl))) (g := (mkF m 1 #[.val (.long q1), .second] [(.long q1)])) rfl (hb hby d2_1)) ?_
  show own_Go p e below K (s₁.setTop (mkF m 4 #[.val (.long q1), .second] [(.long (-1 : Int64)), (.long q1)]))
  refine own_st (fun t k => XS.lcmp X0.here hx rfl (hb hby d2_4) rfl k) ?_
  show own_Go p e below K (s₁.setTop (mkF m 5 #[.val (.long q1), .second] [(.int (lcmpW q1 (-1 : Int64)))]))
  by_cases hc5 : q1 = (-1 : Int64)
  · refine own_st (fun t k => XS.ifYes X0.here hx rfl (pc0 := 5) (pc' := 22) rfl (hb hby d2_5) rfl ((if0 _ _).trans (teq ((lw_eq _ _).mpr hc5)).1) (by decide) (by decide) k) ?_
    show own_Go p e below K (s₁.setTop (mkF m 22 #[.val (.long q1), .second] []))
    refine own_st (fun t k => XS.iconst X0.here hx rfl (hb hby d2_22) k) ?_
    show own_Go p e below K (s₁.setTop (mkF m 23 #[.val (.long q1), .second] [(.int (1 : Int32))]))
    refine own_st (fun t k => XS.goto X0.here hx rfl (pc0 := 23) (pc' := 27) rfl (hb hby d2_23) (by decide) (by decide) k) ?_
    show own_Go p e below K (s₁.setTop (mkF m 27 #[.val (.long q1), .second] [(.int (1 : Int32))]))
    obtain ⟨fs, hr, hrun, hended, hW, hsame⟩ := X0.leave (v := some (.int (nar .boolean (1 : Int32)))) (fun h => by rw [Bd.returns] at h; cases h)
    refine ⟨_, retN X0 hx (t := .boolean) Bd.returns (by simp) (hb hby d2_27) hr, fin _ _ _ hrun hended ?_ ⟨⟨_, rfl⟩, hW, hsame.mono (by decide) (by decide)⟩⟩
    show Q2 Z q1 h0 n0 _ s₁.heap _
    rw [e0]
    exact ⟨_, rfl, (own_B.yes (by decide) (Or.inl hc5)), N0, rfl⟩
  refine own_st (fun t k => XS.ifNo X0.here hx rfl (hb hby d2_5) rfl ((if0 _ _).trans (feq (fun q => hc5 ((lw_eq _ _).mp q))).1) k) ?_
  show own_Go p e below K (s₁.setTop (mkF m 8 #[.val (.long q1), .second] []))
  refine own_st (fun t k => XS.lloadN X0.here hx rfl (hb hby d2_8) rfl k) ?_
  show own_Go p e below K (s₁.setTop (mkF m 9 #[.val (.long q1), .second] [(.long q1)]))
  refine own_st (fun t k => XS.lconst X0.here hx rfl (hb hby d2_9) k) ?_
  show own_Go p e below K (s₁.setTop (mkF m 10 #[.val (.long q1), .second] [(.long (1 : Int64)), (.long q1)]))
  refine own_st (fun t k => XS.lcmp X0.here hx rfl (hb hby d2_10) rfl k) ?_
  show own_Go p e below K (s₁.setTop (mkF m 11 #[.val (.long q1), .second] [(.int (lcmpW q1 (1 : Int64)))]))
  by_cases hc11 : q1 < (1 : Int64)
  · refine own_st (fun t k => XS.ifYes X0.here hx rfl (pc0 := 11) (pc' := 26) rfl (hb hby d2_11) rfl ((if0 _ _).trans (tlt ((lw_lt _ _).mpr hc11)).1) (by decide) (by decide) k) ?_
    show own_Go p e below K (s₁.setTop (mkF m 26 #[.val (.long q1), .second] []))
    refine own_st (fun t k => XS.iconst X0.here hx rfl (hb hby d2_26) k) ?_
    show own_Go p e below K (s₁.setTop (mkF m 27 #[.val (.long q1), .second] [(.int (0 : Int32))]))
    obtain ⟨fs, hr, hrun, hended, hW, hsame⟩ := X0.leave (v := some (.int (nar .boolean (0 : Int32)))) (fun h => by rw [Bd.returns] at h; cases h)
    refine ⟨_, retN X0 hx (t := .boolean) Bd.returns (by simp) (hb hby d2_27) hr, fin _ _ _ hrun hended ?_ ⟨⟨_, rfl⟩, hW, hsame.mono (by decide) (by decide)⟩⟩
    show Q2 Z q1 h0 n0 _ s₁.heap _
    rw [e0]
    exact ⟨_, rfl, (own_B.no (by decide) fun q => q.elim hc5 fun z => z.1 hc11), N0, rfl⟩
  refine own_st (fun t k => XS.ifNo X0.here hx rfl (hb hby d2_11) rfl ((if0 _ _).trans (flt (fun q => hc11 ((lw_lt _ _).mp q))).1) k) ?_
  show own_Go p e below K (s₁.setTop (mkF m 14 #[.val (.long q1), .second] []))
  refine own_st (fun t k => XS.lloadN X0.here hx rfl (hb hby d2_14) rfl k) ?_
  show own_Go p e below K (s₁.setTop (mkF m 15 #[.val (.long q1), .second] [(.long q1)]))
  refine own_st (X0.ldc2Long hx hown (mvT hZ (hw _ (List.mem_of_getElem? (i := 9) rfl))) (g := (mkF m 15 #[.val (.long q1), .second] [(.long q1)])) rfl (hb hby d2_15)) ?_
  show own_Go p e below K (s₁.setTop (mkF m 18 #[.val (.long q1), .second] [(.long (2147483647 : Int64)), (.long q1)]))
  refine own_st (fun t k => XS.lcmp X0.here hx rfl (hb hby d2_18) rfl k) ?_
  show own_Go p e below K (s₁.setTop (mkF m 19 #[.val (.long q1), .second] [(.int (lcmpW q1 (2147483647 : Int64)))]))
  by_cases hc19 : (2147483647 : Int64) < q1
  · refine own_st (fun t k => XS.ifYes X0.here hx rfl (pc0 := 19) (pc' := 26) rfl (hb hby d2_19) rfl ((if0 _ _).trans (tlt ((lw_gt _ _).mpr hc19)).2.2.1) (by decide) (by decide) k) ?_
    show own_Go p e below K (s₁.setTop (mkF m 26 #[.val (.long q1), .second] []))
    refine own_st (fun t k => XS.iconst X0.here hx rfl (hb hby d2_26) k) ?_
    show own_Go p e below K (s₁.setTop (mkF m 27 #[.val (.long q1), .second] [(.int (0 : Int32))]))
    obtain ⟨fs, hr, hrun, hended, hW, hsame⟩ := X0.leave (v := some (.int (nar .boolean (0 : Int32)))) (fun h => by rw [Bd.returns] at h; cases h)
    refine ⟨_, retN X0 hx (t := .boolean) Bd.returns (by simp) (hb hby d2_27) hr, fin _ _ _ hrun hended ?_ ⟨⟨_, rfl⟩, hW, hsame.mono (by decide) (by decide)⟩⟩
    show Q2 Z q1 h0 n0 _ s₁.heap _
    rw [e0]
    exact ⟨_, rfl, (own_B.no (by decide) fun q => q.elim hc5 fun z => z.2 hc19), N0, rfl⟩
  refine own_st (fun t k => XS.ifNo X0.here hx rfl (hb hby d2_19) rfl ((if0 _ _).trans (flt (fun q => hc19 ((lw_gt _ _).mp q))).2.2.1) k) ?_
  show own_Go p e below K (s₁.setTop (mkF m 22 #[.val (.long q1), .second] []))
  refine own_st (fun t k => XS.iconst X0.here hx rfl (hb hby d2_22) k) ?_
  show own_Go p e below K (s₁.setTop (mkF m 23 #[.val (.long q1), .second] [(.int (1 : Int32))]))
  refine own_st (fun t k => XS.goto X0.here hx rfl (pc0 := 23) (pc' := 27) rfl (hb hby d2_23) (by decide) (by decide) k) ?_
  show own_Go p e below K (s₁.setTop (mkF m 27 #[.val (.long q1), .second] [(.int (1 : Int32))]))
  obtain ⟨fs, hr, hrun, hended, hW, hsame⟩ := X0.leave (v := some (.int (nar .boolean (1 : Int32)))) (fun h => by rw [Bd.returns] at h; cases h)
  refine ⟨_, retN X0 hx (t := .boolean) Bd.returns (by simp) (hb hby d2_27) hr, fin _ _ _ hrun hended ?_ ⟨⟨_, rfl⟩, hW, hsame.mono (by decide) (by decide)⟩⟩
  show Q2 Z q1 h0 n0 _ s₁.heap _
  rw [e0]
  exact ⟨_, rfl, (own_B.yes (by decide) (Or.inr ⟨hc11, hc19⟩)), N0, rfl⟩
theorem d3_0 : decode method_3_code 0 = .ok (.lload_n 0, 1) := by decide +kernel
theorem d3_1 : decode method_3_code 1 = .ok (.l2i, 1) := by decide +kernel
theorem d3_2 : decode method_3_code 2 = .ok (.istore_n 2, 1) := by decide +kernel
theorem d3_3 : decode method_3_code 3 = .ok (.iload_n 2, 1) := by decide +kernel
theorem d3_4 : decode method_3_code 4 = .ok (.i2l, 1) := by decide +kernel
theorem d3_5 : decode method_3_code 5 = .ok (.lload_n 0, 1) := by decide +kernel
theorem d3_6 : decode method_3_code 6 = .ok (.lcmp, 1) := by decide +kernel
theorem d3_7 : decode method_3_code 7 = .ok (.ifCond .eq 5, 3) := by decide +kernel
theorem d3_10 : decode method_3_code 10 = .ok (.iconst 0, 1) := by decide +kernel
theorem d3_11 : decode method_3_code 11 = .ok (.ireturn, 1) := by decide +kernel
theorem d3_12 : decode method_3_code 12 = .ok (.iload_n 2, 1) := by decide +kernel
theorem d3_13 : decode method_3_code 13 = .ok (.iconst (-1), 1) := by decide +kernel
theorem d3_14 : decode method_3_code 14 = .ok (.if_icmp .ne 5, 3) := by decide +kernel
theorem d3_17 : decode method_3_code 17 = .ok (.iconst 1, 1) := by decide +kernel
theorem d3_18 : decode method_3_code 18 = .ok (.ireturn, 1) := by decide +kernel
theorem d3_19 : decode method_3_code 19 = .ok (.iload_n 2, 1) := by decide +kernel
theorem d3_20 : decode method_3_code 20 = .ok (.ifCond .le 7, 3) := by decide +kernel
theorem d3_23 : decode method_3_code 23 = .ok (.iconst 1, 1) := by decide +kernel
theorem d3_24 : decode method_3_code 24 = .ok (.goto 4, 3) := by decide +kernel
theorem d3_27 : decode method_3_code 27 = .ok (.iconst 0, 1) := by decide +kernel
theorem d3_28 : decode method_3_code 28 = .ok (.ireturn, 1) := by decide +kernel
theorem pn_3 : plainName "com/example/expire_then_sweep/expirethensweep/model/ContainerSettingsIsTimeToLivePinLaw" = true := by first | (simp [plainName, overriddenIn]; done) | decide +kernel
theorem ef_3 (m : MethodId) (x0 : Int64) : entryFrame m #[(.long x0)] 3 = mkF m 0 #[.val (.long x0), .second, .unset] [] := by first | (simp [entryFrame, mkF, argsToLocals, Value.category]; done) | rfl
def Q3 (Z : State) (q1 : Int64) (h0 : Heap) (n0 : Nat) (v : Option Value) (h : Heap) (L : List Loc) : Prop := ∃ (r : Int32), v = some (.int r) ∧ (own_B (own_ttl q1) r) ∧ Fr n0 L ∧ h = h0
set_option maxRecDepth 65536 in
set_option maxHeartbeats 40000000 in
theorem rm3 (l : Launch) (Z : State) (a0 : Array Value) (hw : ∀ d ∈ tables_1, d.before a0 Z = true) (ws : List Jvm.Cond) (q1 : Int64) (h0 : Heap) (n0 : Nat) (Z0 : n0 ≤ h0.size)  :
    MetFree l (⟨"com/example/expire_then_sweep/expirethensweep/model/ContainerSettingsIsTimeToLivePinLaw", "ref", "(J)Z"⟩ : MethodName) (head1 (Jvm.Cond.code (⟨"com/example/expire_then_sweep/expirethensweep/model/ContainerSettingsIsTimeToLivePinLaw", "ref", "(J)Z"⟩ : MethodName) method_3_code 3 (some .boolean) :: ws) ({ frames := 0, cells := 0, slots := 0, locals := 0 } : Room)) (fun a U => a = #[(.long q1)] ∧ Z.Warmed39 U.vm ∧ U.heap = h0) (fun _ _ _ _ _ => True) (fun _ U o U' => ∃ v L, o = .returned v ∧ Q3 Z q1 h0 n0 v U'.heap L ∧ FrameEnd U o U' L ({ frames := 0, cells := 0, slots := 0, locals := 0 } : Room).cells ({ frames := 0, cells := 0, slots := 0, locals := 0 } : Room).slots) := by
  refine MetFree.of_bodySF (plainFor_of_name pn_3) hisR ?_
  intro p e s m args below meth c s₁ Bd hml0 hP hK
  obtain ⟨rfl, hZ, hh⟩ := hP
  have hx := Bd.exec
  have hby := Bd.bytes
  have hml : c.maxLocals = 3 := hml0
  have hown : s.vm.findClass "com/example/expire_then_sweep/expirethensweep/model/ContainerSettingsIsTimeToLivePinLaw" = some m.cls := findClass_of_methodNamed Bd.named
  have hnm := (name_of_methodNamed Bd.named Bd.method).1
  have X0 : Stand p l e ({ frames := 0, cells := 0, slots := 0, locals := 0 } : Room) s m #[(.long q1)] below meth c s₁ [] 0 0 := Stand.of_body Bd
  have e0 : s₁.heap = h0 := by rw [← hh, Bd.state]; rfl
  have N0 := Fr.nil n0
  suffices G0 : ∀ K : State → Prop, (∀ (n : State) (v : Option Value) (L : List Loc), n.status = .running → Ended n below (.returned v) → Q3 Z q1 h0 n0 v n.heap L → FrameEnd s (.returned v) n L ({ frames := 0, cells := 0, slots := 0, locals := 0 } : Room).cells ({ frames := 0, cells := 0, slots := 0, locals := 0 } : Room).slots → K n) → own_Go p e below K (s₁.setTop (mkF m 0 #[.val (.long q1), .second, .unset] [])) by
    obtain ⟨t, st, o, a, b, v, L, e1, q, fe⟩ := G0 (fun n => ∃ o, n.status = .running ∧ Ended n below o ∧ ∃ v L, o = .returned v ∧ Q3 Z q1 h0 n0 v n.heap L ∧ FrameEnd s o n L ({ frames := 0, cells := 0, slots := 0, locals := 0 } : Room).cells ({ frames := 0, cells := 0, slots := 0, locals := 0 } : Room).slots) (fun n v L a b q f => ⟨_, a, b, v, L, rfl, q, f⟩)
    exact ⟨t, o, castTop (ef_3 m q1) st, a, b, v, L, e1, q, fe⟩
  intro K fin
  show own_Go p e below K (s₁.setTop (mkF m 0 #[.val (.long q1), .second, .unset] []))
  refine own_st (fun t k => XS.lloadN X0.here hx rfl (hb hby d3_0) rfl k) ?_
  show own_Go p e below K (s₁.setTop (mkF m 1 #[.val (.long q1), .second, .unset] [(.long q1)]))
  refine own_st (fun t k => XS.l2i X0.here hx rfl (hb hby d3_1) rfl k) ?_
  show own_Go p e below K (s₁.setTop (mkF m 2 #[.val (.long q1), .second, .unset] [(.int (q1.toInt32))]))
  refine own_st (fun t k => XS.istoreN X0.here hx rfl (hb hby d3_2) rfl (l' := #[.val (.long q1), .second, .val (.int (q1.toInt32))]) rfl k) ?_
  show own_Go p e below K (s₁.setTop (mkF m 3 #[.val (.long q1), .second, .val (.int (q1.toInt32))] []))
  refine own_st (fun t k => XS.iloadN X0.here hx rfl (hb hby d3_3) rfl k) ?_
  show own_Go p e below K (s₁.setTop (mkF m 4 #[.val (.long q1), .second, .val (.int (q1.toInt32))] [(.int (q1.toInt32))]))
  refine own_st (fun t k => XS.i2l X0.here hx rfl (hb hby d3_4) rfl k) ?_
  show own_Go p e below K (s₁.setTop (mkF m 5 #[.val (.long q1), .second, .val (.int (q1.toInt32))] [(.long ((q1.toInt32).toInt64))]))
  refine own_st (fun t k => XS.lloadN X0.here hx rfl (hb hby d3_5) rfl k) ?_
  show own_Go p e below K (s₁.setTop (mkF m 6 #[.val (.long q1), .second, .val (.int (q1.toInt32))] [(.long q1), (.long ((q1.toInt32).toInt64))]))
  refine own_st (fun t k => XS.lcmp X0.here hx rfl (hb hby d3_6) rfl k) ?_
  show own_Go p e below K (s₁.setTop (mkF m 7 #[.val (.long q1), .second, .val (.int (q1.toInt32))] [(.int (lcmpW ((q1.toInt32).toInt64) q1))]))
  by_cases hc7 : ((q1.toInt32).toInt64) = q1
  · refine own_st (fun t k => XS.ifYes X0.here hx rfl (pc0 := 7) (pc' := 12) rfl (hb hby d3_7) rfl ((if0 _ _).trans (teq ((lw_eq _ _).mpr hc7)).1) (by decide) (by decide) k) ?_
    show own_Go p e below K (s₁.setTop (mkF m 12 #[.val (.long q1), .second, .val (.int (q1.toInt32))] []))
    refine own_st (fun t k => XS.iloadN X0.here hx rfl (hb hby d3_12) rfl k) ?_
    show own_Go p e below K (s₁.setTop (mkF m 13 #[.val (.long q1), .second, .val (.int (q1.toInt32))] [(.int (q1.toInt32))]))
    refine own_st (fun t k => XS.iconst X0.here hx rfl (hb hby d3_13) k) ?_
    show own_Go p e below K (s₁.setTop (mkF m 14 #[.val (.long q1), .second, .val (.int (q1.toInt32))] [(.int (-1 : Int32)), (.int (q1.toInt32))]))
    by_cases hc14 : (q1.toInt32) = (-1 : Int32)
    · refine own_st (fun t k => XS.icmpNo X0.here hx rfl (hb hby d3_14) rfl (teq hc14).2 k) ?_
      show own_Go p e below K (s₁.setTop (mkF m 17 #[.val (.long q1), .second, .val (.int (q1.toInt32))] []))
      refine own_st (fun t k => XS.iconst X0.here hx rfl (hb hby d3_17) k) ?_
      show own_Go p e below K (s₁.setTop (mkF m 18 #[.val (.long q1), .second, .val (.int (q1.toInt32))] [(.int (1 : Int32))]))
      obtain ⟨fs, hr, hrun, hended, hW, hsame⟩ := X0.leave (v := some (.int (nar .boolean (1 : Int32)))) (fun h => by rw [Bd.returns] at h; cases h)
      refine ⟨_, retN X0 hx (t := .boolean) Bd.returns (by simp) (hb hby d3_18) hr, fin _ _ _ hrun hended ?_ ⟨⟨_, rfl⟩, hW, hsame.mono (by decide) (by decide)⟩⟩
      show Q3 Z q1 h0 n0 _ s₁.heap _
      rw [e0]
      exact ⟨_, rfl, (own_B.yes (by decide) (own_rb hc7 hc14)), N0, rfl⟩
    refine own_st (fun t k => XS.icmpYes X0.here hx rfl (pc0 := 14) (pc' := 19) rfl (hb hby d3_14) rfl (feq hc14).2 (by decide) (by decide) k) ?_
    show own_Go p e below K (s₁.setTop (mkF m 19 #[.val (.long q1), .second, .val (.int (q1.toInt32))] []))
    refine own_st (fun t k => XS.iloadN X0.here hx rfl (hb hby d3_19) rfl k) ?_
    show own_Go p e below K (s₁.setTop (mkF m 20 #[.val (.long q1), .second, .val (.int (q1.toInt32))] [(.int (q1.toInt32))]))
    by_cases hc20 : (0 : Int32) < (q1.toInt32)
    · refine own_st (fun t k => XS.ifNo X0.here hx rfl (hb hby d3_20) rfl ((if0 _ _).trans (tlt hc20).2.2.2) k) ?_
      show own_Go p e below K (s₁.setTop (mkF m 23 #[.val (.long q1), .second, .val (.int (q1.toInt32))] []))
      refine own_st (fun t k => XS.iconst X0.here hx rfl (hb hby d3_23) k) ?_
      show own_Go p e below K (s₁.setTop (mkF m 24 #[.val (.long q1), .second, .val (.int (q1.toInt32))] [(.int (1 : Int32))]))
      refine own_st (fun t k => XS.goto X0.here hx rfl (pc0 := 24) (pc' := 28) rfl (hb hby d3_24) (by decide) (by decide) k) ?_
      show own_Go p e below K (s₁.setTop (mkF m 28 #[.val (.long q1), .second, .val (.int (q1.toInt32))] [(.int (1 : Int32))]))
      obtain ⟨fs, hr, hrun, hended, hW, hsame⟩ := X0.leave (v := some (.int (nar .boolean (1 : Int32)))) (fun h => by rw [Bd.returns] at h; cases h)
      refine ⟨_, retN X0 hx (t := .boolean) Bd.returns (by simp) (hb hby d3_28) hr, fin _ _ _ hrun hended ?_ ⟨⟨_, rfl⟩, hW, hsame.mono (by decide) (by decide)⟩⟩
      show Q3 Z q1 h0 n0 _ s₁.heap _
      rw [e0]
      exact ⟨_, rfl, (own_B.yes (by decide) (own_rc hc7 hc20)), N0, rfl⟩
    refine own_st (fun t k => XS.ifYes X0.here hx rfl (pc0 := 20) (pc' := 27) rfl (hb hby d3_20) rfl ((if0 _ _).trans (flt hc20).2.2.2) (by decide) (by decide) k) ?_
    show own_Go p e below K (s₁.setTop (mkF m 27 #[.val (.long q1), .second, .val (.int (q1.toInt32))] []))
    refine own_st (fun t k => XS.iconst X0.here hx rfl (hb hby d3_27) k) ?_
    show own_Go p e below K (s₁.setTop (mkF m 28 #[.val (.long q1), .second, .val (.int (q1.toInt32))] [(.int (0 : Int32))]))
    obtain ⟨fs, hr, hrun, hended, hW, hsame⟩ := X0.leave (v := some (.int (nar .boolean (0 : Int32)))) (fun h => by rw [Bd.returns] at h; cases h)
    refine ⟨_, retN X0 hx (t := .boolean) Bd.returns (by simp) (hb hby d3_28) hr, fin _ _ _ hrun hended ?_ ⟨⟨_, rfl⟩, hW, hsame.mono (by decide) (by decide)⟩⟩
    show Q3 Z q1 h0 n0 _ s₁.heap _
    rw [e0]
    exact ⟨_, rfl, (own_B.no (by decide) (own_rd hc7 hc14 hc20)), N0, rfl⟩
  refine own_st (fun t k => XS.ifNo X0.here hx rfl (hb hby d3_7) rfl ((if0 _ _).trans (feq (fun q => hc7 ((lw_eq _ _).mp q))).1) k) ?_
  show own_Go p e below K (s₁.setTop (mkF m 10 #[.val (.long q1), .second, .val (.int (q1.toInt32))] []))
  refine own_st (fun t k => XS.iconst X0.here hx rfl (hb hby d3_10) k) ?_
  show own_Go p e below K (s₁.setTop (mkF m 11 #[.val (.long q1), .second, .val (.int (q1.toInt32))] [(.int (0 : Int32))]))
  obtain ⟨fs, hr, hrun, hended, hW, hsame⟩ := X0.leave (v := some (.int (nar .boolean (0 : Int32)))) (fun h => by rw [Bd.returns] at h; cases h)
  refine ⟨_, retN X0 hx (t := .boolean) Bd.returns (by simp) (hb hby d3_11) hr, fin _ _ _ hrun hended ?_ ⟨⟨_, rfl⟩, hW, hsame.mono (by decide) (by decide)⟩⟩
  show Q3 Z q1 h0 n0 _ s₁.heap _
  rw [e0]
  exact ⟨_, rfl, (own_B.no (by decide) (own_ra hc7)), N0, rfl⟩
theorem pn_0 : plainName "com/example/expire_then_sweep/expirethensweep/model/ContainerSettingsIsTimeToLivePinLaw" = true := by first | (simp [plainName, overriddenIn]; done) | decide +kernel
theorem pd_0_0 : parseMethodDescriptor "(I)J" = some ⟨[.int], some .long⟩ := by decide +kernel
theorem pd_0_1 : parseMethodDescriptor "(J)Z" = some ⟨[.long], some .boolean⟩ := by decide +kernel
theorem ef_0 (m : MethodId) (x0 : Int64) (x1 : Int32) : entryFrame m #[(.long x0), (.int x1)] maxLocals = mkF m 0 #[.val (.long x0), .second, .val (.int x1), .unset, .unset, .unset, .unset] [] := by first | (simp [entryFrame, mkF, argsToLocals, Value.category, maxLocals]; done) | rfl
def Q0 (Z : State) (q1 : Int64) (p2 : Int32) (h0 : Heap) (n0 : Nat) (v : Option Value) (h : Heap) (L : List Loc) : Prop := v = some (.int 1) ∧ Fr n0 L
set_option maxRecDepth 65536 in
set_option maxHeartbeats 40000000 in
theorem rm0 (l : Launch) (Z : State) (a0 : Array Value) (hw : ∀ d ∈ tables_1, d.before a0 Z = true) (ws : List Jvm.Cond) (q1 : Int64) (p2 : Int32) (h0 : Heap) (n0 : Nat) (Z0 : n0 ≤ h0.size)  :
    MetFree l x (head1 (Jvm.Cond.code x code maxLocals ret :: ws) room_1) (fun a U => a = #[(.long q1), (.int p2)] ∧ Z.Warmed39 U.vm ∧ U.heap = h0) (fun _ _ _ _ _ => True) (fun _ U o U' => ∃ v L, o = .returned v ∧ Q0 Z q1 p2 h0 n0 v U'.heap L ∧ FrameEnd U o U' L 0 0) := by
  refine MetFree.of_bodySF (plainFor_of_name pn_0) hisR ?_
  intro p e s m args below meth c s₁ Bd hml0 hP hK
  obtain ⟨rfl, hZ, hh⟩ := hP
  have hx := Bd.exec
  have hby := Bd.bytes
  have hml : c.maxLocals = 7 := hml0
  have hown : s.vm.findClass "com/example/expire_then_sweep/expirethensweep/model/ContainerSettingsIsTimeToLivePinLaw" = some m.cls := findClass_of_methodNamed Bd.named
  have hnm := (name_of_methodNamed Bd.named Bd.method).1
  have X0 : Stand p l e room_1 s m #[(.long q1), (.int p2)] below meth c s₁ [] 0 0 := Stand.of_body Bd
  have e0 : s₁.heap = h0 := by rw [← hh, Bd.state]; rfl
  have N0 := Fr.nil n0
  suffices G0 : ∀ K : State → Prop, (∀ (n : State) (v : Option Value) (L : List Loc), n.status = .running → Ended n below (.returned v) → Q0 Z q1 p2 h0 n0 v n.heap L → FrameEnd s (.returned v) n L 0 0 → K n) → own_Go p e below K (s₁.setTop (mkF m 0 #[.val (.long q1), .second, .val (.int p2), .unset, .unset, .unset, .unset] [])) by
    obtain ⟨t, st, o, a, b, v, L, e1, q, fe⟩ := G0 (fun n => ∃ o, n.status = .running ∧ Ended n below o ∧ ∃ v L, o = .returned v ∧ Q0 Z q1 p2 h0 n0 v n.heap L ∧ FrameEnd s o n L 0 0) (fun n v L a b q f => ⟨_, a, b, v, L, rfl, q, f⟩)
    exact ⟨t, o, castTop (ef_0 m q1 p2) st, a, b, v, L, e1, q, fe⟩
  intro K fin
  show own_Go p e below K (s₁.setTop (mkF m 0 #[.val (.long q1), .second, .val (.int p2), .unset, .unset, .unset, .unset] []))
  refine own_st (fun t k => XS.iloadN X0.here hx rfl (hb hby at_0) rfl k) ?_
  show own_Go p e below K (s₁.setTop (mkF m 1 #[.val (.long q1), .second, .val (.int p2), .unset, .unset, .unset, .unset] [(.int p2)]))
  refine own_st (fun t k => XS.bipush X0.here hx rfl (hb hby at_1) k) ?_
  show own_Go p e below K (s₁.setTop (mkF m 3 #[.val (.long q1), .second, .val (.int p2), .unset, .unset, .unset, .unset] [(.int (7 : Int32)), (.int p2)]))
  refine own_st (fun t k => XS.iand X0.here hx rfl (hb hby at_3) rfl k) ?_
  show own_Go p e below K (s₁.setTop (mkF m 4 #[.val (.long q1), .second, .val (.int p2), .unset, .unset, .unset, .unset] [(.int (p2 &&& (7 : Int32)))]))
  obtain ⟨_, _, ⟨T1, L1, k1, n1⟩, -, X1, ⟨Lc1, hQ1, l1, y1, z1⟩, st1⟩ := Jvm.LawKit.callS X0 hx (y := (⟨"com/example/expire_then_sweep/expirethensweep/model/ContainerSettingsIsTimeToLivePinLaw", "boundary", "(I)J"⟩ : MethodName)) hown (mvT hZ (hw _ (List.mem_of_getElem? (i := 0) rfl))) (mvT hZ (hw _ (List.mem_of_getElem? (i := 1) rfl))) (mvT hZ (hw _ (List.mem_of_getElem? (i := 2) rfl))) (mvT hZ (hw _ (List.mem_of_getElem? (i := 3) rfl))) (by decide) (backOf (W := 0) (rm1 l Z a0 hw [] (p2 &&& (7 : Int32)) h0 n0 Z0) hZ (hw _ (List.mem_of_getElem? (i := 3) rfl)) (hw _ (List.mem_of_getElem? (i := 2) rfl)) (by decide) (by decide)) (g := (mkF m 4 #[.val (.long q1), .second, .val (.int p2), .unset, .unset, .unset, .unset] [(.int (p2 &&& (7 : Int32)))])) rfl (by rw [hml]; rfl) (argsL := [(.int (p2 &&& (7 : Int32)))]) (rest := []) (lenOf pd_0_0 rfl) rfl (by show 2 * 0 + _ ≤ _; exact Nat.le_of_eq rfl) (hb hby at_4) (fun _ _ => ⟨rfl, e0, (by decide : 0 + 0 ≤ _), (by decide : 0 + 0 ≤ _)⟩)
  dsimp only [Pt.U, Pt.locs, Pt.cells, Pt.slots] at X1 l1 y1 z1 st1 hQ1
  subst l1 y1 z1
  obtain ⟨r1, rfl, hr1, N1q, e1⟩ := hQ1
  have N1 := Fr.app N0 N1q
  refine own_st st1 ?_
  show own_Go p e below K (T1.setTop (mkF m 7 #[.val (.long q1), .second, .val (.int p2), .unset, .unset, .unset, .unset] [(.long r1)]))
  refine own_st (fun t k => XS.lstoreN X1.here hx rfl (hb hby at_7) rfl (l' := #[.val (.long q1), .second, .val (.int p2), .val (.long r1), .second, .unset, .unset]) rfl k) ?_
  show own_Go p e below K (T1.setTop (mkF m 8 #[.val (.long q1), .second, .val (.int p2), .val (.long r1), .second, .unset, .unset] []))
  refine own_st (fun t k => XS.lloadN X1.here hx rfl (hb hby at_8) rfl k) ?_
  show own_Go p e below K (T1.setTop (mkF m 9 #[.val (.long q1), .second, .val (.int p2), .val (.long r1), .second, .unset, .unset] [(.long q1)]))
  obtain ⟨_, _, ⟨T2, L2, k2, n2⟩, -, X2, ⟨Lc2, hQ2, l2, y2, z2⟩, st2⟩ := Jvm.LawKit.callS X1 hx (y := (⟨"com/example/expire_then_sweep/expirethensweep/model/ContainerSettings", "isTimeToLive", "(J)Z"⟩ : MethodName)) hown (mvT hZ (hw _ (List.mem_of_getElem? (i := 4) rfl))) (mvT hZ (hw _ (List.mem_of_getElem? (i := 5) rfl))) (mvT hZ (hw _ (List.mem_of_getElem? (i := 6) rfl))) (mvT hZ (hw _ (List.mem_of_getElem? (i := 7) rfl))) (by decide) (backOf (W := 0) (rm2 l Z a0 hw [] q1 h0 n0 Z0) hZ (hw _ (List.mem_of_getElem? (i := 7) rfl)) (hw _ (List.mem_of_getElem? (i := 6) rfl)) (by decide) (by decide)) (g := (mkF m 9 #[.val (.long q1), .second, .val (.int p2), .val (.long r1), .second, .unset, .unset] [(.long q1)])) rfl (by rw [hml]; rfl) (argsL := [(.long q1)]) (rest := []) (lenOf pd_0_1 rfl) rfl (by show 2 * 0 + _ ≤ _; exact Nat.le_of_eq rfl) (hb hby at_9) (fun _ _ => ⟨rfl, e1, (by decide : 0 + 0 ≤ _), (by decide : 0 + 0 ≤ _)⟩)
  dsimp only [Pt.U, Pt.locs, Pt.cells, Pt.slots] at X2 l2 y2 z2 st2 hQ2
  subst l2 y2 z2
  obtain ⟨r2, rfl, hr2, N2q, e2⟩ := hQ2
  have N2 := Fr.app N1 N2q
  refine own_st st2 ?_
  show own_Go p e below K (T2.setTop (mkF m 12 #[.val (.long q1), .second, .val (.int p2), .val (.long r1), .second, .unset, .unset] [(.int r2)]))
  refine own_st (fun t k => XS.lloadN X2.here hx rfl (hb hby at_12) rfl k) ?_
  show own_Go p e below K (T2.setTop (mkF m 13 #[.val (.long q1), .second, .val (.int p2), .val (.long r1), .second, .unset, .unset] [(.long q1), (.int r2)]))
  obtain ⟨_, _, ⟨T3, L3, k3, n3⟩, -, X3, ⟨Lc3, hQ3, l3, y3, z3⟩, st3⟩ := Jvm.LawKit.callS X2 hx (y := (⟨"com/example/expire_then_sweep/expirethensweep/model/ContainerSettingsIsTimeToLivePinLaw", "ref", "(J)Z"⟩ : MethodName)) hown (mvT hZ (hw _ (List.mem_of_getElem? (i := 10) rfl))) (mvT hZ (hw _ (List.mem_of_getElem? (i := 11) rfl))) (mvT hZ (hw _ (List.mem_of_getElem? (i := 2) rfl))) (mvT hZ (hw _ (List.mem_of_getElem? (i := 12) rfl))) (by decide) (backOf (W := 1) (rm3 l Z a0 hw [] q1 h0 n0 Z0) hZ (hw _ (List.mem_of_getElem? (i := 12) rfl)) (hw _ (List.mem_of_getElem? (i := 2) rfl)) (by decide) (by decide)) (g := (mkF m 13 #[.val (.long q1), .second, .val (.int p2), .val (.long r1), .second, .unset, .unset] [(.long q1), (.int r2)])) rfl (by rw [hml]; rfl) (argsL := [(.long q1)]) (rest := [(.int r2)]) (lenOf pd_0_1 rfl) rfl (by show 2 * 0 + _ ≤ _; exact Nat.le_of_eq rfl) (hb hby at_13) (fun _ _ => ⟨rfl, e2, (by decide : 0 + 0 ≤ _), (by decide : 0 + 0 ≤ _)⟩)
  dsimp only [Pt.U, Pt.locs, Pt.cells, Pt.slots] at X3 l3 y3 z3 st3 hQ3
  subst l3 y3 z3
  obtain ⟨r3, rfl, hr3, N3q, e3⟩ := hQ3
  have N3 := Fr.app N2 N3q
  refine own_st st3 ?_
  show own_Go p e below K (T3.setTop (mkF m 16 #[.val (.long q1), .second, .val (.int p2), .val (.long r1), .second, .unset, .unset] [(.int r3), (.int r2)]))
  refine own_st (fun t k => XS.icmpNo X3.here hx rfl (hb hby at_16) rfl (teq (own_B.same hr2 hr3 Iff.rfl : r2 = r3)).2 k) ?_
  show own_Go p e below K (T3.setTop (mkF m 19 #[.val (.long q1), .second, .val (.int p2), .val (.long r1), .second, .unset, .unset] []))
  refine own_st (fun t k => XS.iconst X3.here hx rfl (hb hby at_19) k) ?_
  show own_Go p e below K (T3.setTop (mkF m 20 #[.val (.long q1), .second, .val (.int p2), .val (.long r1), .second, .unset, .unset] [(.int (1 : Int32))]))
  refine own_st (fun t k => XS.goto X3.here hx rfl (pc0 := 20) (pc' := 24) rfl (hb hby at_20) (by decide) (by decide) k) ?_
  show own_Go p e below K (T3.setTop (mkF m 24 #[.val (.long q1), .second, .val (.int p2), .val (.long r1), .second, .unset, .unset] [(.int (1 : Int32))]))
  refine own_st (fun t k => XS.istore X3.here hx rfl (hb hby at_24) rfl (l' := #[.val (.long q1), .second, .val (.int p2), .val (.long r1), .second, .val (.int (1 : Int32)), .unset]) rfl k) ?_
  show own_Go p e below K (T3.setTop (mkF m 26 #[.val (.long q1), .second, .val (.int p2), .val (.long r1), .second, .val (.int (1 : Int32)), .unset] []))
  refine own_st (fun t k => XS.lloadN X3.here hx rfl (hb hby at_26) rfl k) ?_
  show own_Go p e below K (T3.setTop (mkF m 27 #[.val (.long q1), .second, .val (.int p2), .val (.long r1), .second, .val (.int (1 : Int32)), .unset] [(.long r1)]))
  obtain ⟨_, _, ⟨T4, L4, k4, n4⟩, -, X4, ⟨Lc4, hQ4, l4, y4, z4⟩, st4⟩ := Jvm.LawKit.callS X3 hx (y := (⟨"com/example/expire_then_sweep/expirethensweep/model/ContainerSettings", "isTimeToLive", "(J)Z"⟩ : MethodName)) hown (mvT hZ (hw _ (List.mem_of_getElem? (i := 4) rfl))) (mvT hZ (hw _ (List.mem_of_getElem? (i := 5) rfl))) (mvT hZ (hw _ (List.mem_of_getElem? (i := 6) rfl))) (mvT hZ (hw _ (List.mem_of_getElem? (i := 7) rfl))) (by decide) (backOf (W := 0) (rm2 l Z a0 hw [] r1 h0 n0 Z0) hZ (hw _ (List.mem_of_getElem? (i := 7) rfl)) (hw _ (List.mem_of_getElem? (i := 6) rfl)) (by decide) (by decide)) (g := (mkF m 27 #[.val (.long q1), .second, .val (.int p2), .val (.long r1), .second, .val (.int (1 : Int32)), .unset] [(.long r1)])) rfl (by rw [hml]; rfl) (argsL := [(.long r1)]) (rest := []) (lenOf pd_0_1 rfl) rfl (by show 2 * 0 + _ ≤ _; exact Nat.le_of_eq rfl) (hb hby at_27) (fun _ _ => ⟨rfl, e3, (by decide : 0 + 0 ≤ _), (by decide : 0 + 0 ≤ _)⟩)
  dsimp only [Pt.U, Pt.locs, Pt.cells, Pt.slots] at X4 l4 y4 z4 st4 hQ4
  subst l4 y4 z4
  obtain ⟨r4, rfl, hr4, N4q, e4⟩ := hQ4
  have N4 := Fr.app N3 N4q
  refine own_st st4 ?_
  show own_Go p e below K (T4.setTop (mkF m 30 #[.val (.long q1), .second, .val (.int p2), .val (.long r1), .second, .val (.int (1 : Int32)), .unset] [(.int r4)]))
  refine own_st (fun t k => XS.lloadN X4.here hx rfl (hb hby at_30) rfl k) ?_
  show own_Go p e below K (T4.setTop (mkF m 31 #[.val (.long q1), .second, .val (.int p2), .val (.long r1), .second, .val (.int (1 : Int32)), .unset] [(.long r1), (.int r4)]))
  obtain ⟨_, _, ⟨T5, L5, k5, n5⟩, -, X5, ⟨Lc5, hQ5, l5, y5, z5⟩, st5⟩ := Jvm.LawKit.callS X4 hx (y := (⟨"com/example/expire_then_sweep/expirethensweep/model/ContainerSettingsIsTimeToLivePinLaw", "ref", "(J)Z"⟩ : MethodName)) hown (mvT hZ (hw _ (List.mem_of_getElem? (i := 10) rfl))) (mvT hZ (hw _ (List.mem_of_getElem? (i := 11) rfl))) (mvT hZ (hw _ (List.mem_of_getElem? (i := 2) rfl))) (mvT hZ (hw _ (List.mem_of_getElem? (i := 12) rfl))) (by decide) (backOf (W := 1) (rm3 l Z a0 hw [] r1 h0 n0 Z0) hZ (hw _ (List.mem_of_getElem? (i := 12) rfl)) (hw _ (List.mem_of_getElem? (i := 2) rfl)) (by decide) (by decide)) (g := (mkF m 31 #[.val (.long q1), .second, .val (.int p2), .val (.long r1), .second, .val (.int (1 : Int32)), .unset] [(.long r1), (.int r4)])) rfl (by rw [hml]; rfl) (argsL := [(.long r1)]) (rest := [(.int r4)]) (lenOf pd_0_1 rfl) rfl (by show 2 * 0 + _ ≤ _; exact Nat.le_of_eq rfl) (hb hby at_31) (fun _ _ => ⟨rfl, e4, (by decide : 0 + 0 ≤ _), (by decide : 0 + 0 ≤ _)⟩)
  dsimp only [Pt.U, Pt.locs, Pt.cells, Pt.slots] at X5 l5 y5 z5 st5 hQ5
  subst l5 y5 z5
  obtain ⟨r5, rfl, hr5, N5q, e5⟩ := hQ5
  have N5 := Fr.app N4 N5q
  refine own_st st5 ?_
  show own_Go p e below K (T5.setTop (mkF m 34 #[.val (.long q1), .second, .val (.int p2), .val (.long r1), .second, .val (.int (1 : Int32)), .unset] [(.int r5), (.int r4)]))
  refine own_st (fun t k => XS.icmpNo X5.here hx rfl (hb hby at_34) rfl (teq (own_B.same hr4 hr5 Iff.rfl : r4 = r5)).2 k) ?_
  show own_Go p e below K (T5.setTop (mkF m 37 #[.val (.long q1), .second, .val (.int p2), .val (.long r1), .second, .val (.int (1 : Int32)), .unset] []))
  refine own_st (fun t k => XS.iconst X5.here hx rfl (hb hby at_37) k) ?_
  show own_Go p e below K (T5.setTop (mkF m 38 #[.val (.long q1), .second, .val (.int p2), .val (.long r1), .second, .val (.int (1 : Int32)), .unset] [(.int (1 : Int32))]))
  refine own_st (fun t k => XS.goto X5.here hx rfl (pc0 := 38) (pc' := 42) rfl (hb hby at_38) (by decide) (by decide) k) ?_
  show own_Go p e below K (T5.setTop (mkF m 42 #[.val (.long q1), .second, .val (.int p2), .val (.long r1), .second, .val (.int (1 : Int32)), .unset] [(.int (1 : Int32))]))
  refine own_st (fun t k => XS.istore X5.here hx rfl (hb hby at_42) rfl (l' := #[.val (.long q1), .second, .val (.int p2), .val (.long r1), .second, .val (.int (1 : Int32)), .val (.int (1 : Int32))]) rfl k) ?_
  show own_Go p e below K (T5.setTop (mkF m 44 #[.val (.long q1), .second, .val (.int p2), .val (.long r1), .second, .val (.int (1 : Int32)), .val (.int (1 : Int32))] []))
  refine own_st (fun t k => XS.iload X5.here hx rfl (hb hby at_44) rfl k) ?_
  show own_Go p e below K (T5.setTop (mkF m 46 #[.val (.long q1), .second, .val (.int p2), .val (.long r1), .second, .val (.int (1 : Int32)), .val (.int (1 : Int32))] [(.int (1 : Int32))]))
  refine own_st (fun t k => XS.ifNo X5.here hx rfl (hb hby at_46) rfl ((if0 _ _).trans (feq (by decide : ¬ ((1 : Int32) = (0 : Int32)))).1) k) ?_
  show own_Go p e below K (T5.setTop (mkF m 49 #[.val (.long q1), .second, .val (.int p2), .val (.long r1), .second, .val (.int (1 : Int32)), .val (.int (1 : Int32))] []))
  refine own_st (fun t k => XS.iload X5.here hx rfl (hb hby at_49) rfl k) ?_
  show own_Go p e below K (T5.setTop (mkF m 51 #[.val (.long q1), .second, .val (.int p2), .val (.long r1), .second, .val (.int (1 : Int32)), .val (.int (1 : Int32))] [(.int (1 : Int32))]))
  refine own_st (fun t k => XS.ifNo X5.here hx rfl (hb hby at_51) rfl ((if0 _ _).trans (feq (by decide : ¬ ((1 : Int32) = (0 : Int32)))).1) k) ?_
  show own_Go p e below K (T5.setTop (mkF m 54 #[.val (.long q1), .second, .val (.int p2), .val (.long r1), .second, .val (.int (1 : Int32)), .val (.int (1 : Int32))] []))
  refine own_st (fun t k => XS.iconst X5.here hx rfl (hb hby at_54) k) ?_
  show own_Go p e below K (T5.setTop (mkF m 55 #[.val (.long q1), .second, .val (.int p2), .val (.long r1), .second, .val (.int (1 : Int32)), .val (.int (1 : Int32))] [(.int (1 : Int32))]))
  refine own_st (fun t k => XS.goto X5.here hx rfl (pc0 := 55) (pc' := 59) rfl (hb hby at_55) (by decide) (by decide) k) ?_
  show own_Go p e below K (T5.setTop (mkF m 59 #[.val (.long q1), .second, .val (.int p2), .val (.long r1), .second, .val (.int (1 : Int32)), .val (.int (1 : Int32))] [(.int (1 : Int32))]))
  obtain ⟨fs, hr, hrun, hended, hW, hsame⟩ := X5.leave (v := some (.int (nar .boolean (1 : Int32)))) (fun h => by rw [Bd.returns] at h; cases h)
  refine ⟨_, retN X5 hx (t := .boolean) Bd.returns (by simp) (hb hby at_59) hr, fin _ _ _ hrun hended ?_ ⟨⟨_, rfl⟩, hW, hsame.mono (by decide) (by decide)⟩⟩
  show Q0 Z q1 p2 h0 n0 _ T5.heap _
  rw [e5]
  exact ⟨rfl, N5⟩
set_option maxRecDepth 65536 in
set_option maxHeartbeats 40000000 in
theorem comes_1 {Post : Tables → Env → Array Value → State → Outcome → State → Prop} (hpost : ∀ tb e args s v u, (limb_1_1.after args s (.returned v) u = true ∧ limb_1_2.after args s (.returned v) u = true ∧ True) → FrameEnd s (.returned v) u (Jvm.fieldLocs frame_1_writes args s ++ Jvm.arrayLocs frame_1_arrays args s ++ Jvm.staticLocs frame_1_statics s) 0 0 → Post tb e args s (.returned v) u) :
    ArmFor flags0 classFile x code maxLocals ret World_1 tables_1 room_1 Calls_1 rest_1 Pre_1 Post := by
  intro l hfl _ _ p e ha hc hk s m args below hf hA hF happ hP
  obtain ⟨hcalls, hrest, hpre⟩ := hP
  obtain ⟨-, -, -, hnamed, -, -, -, hat⟩ := (Spec.applies_iff hf).mp happ
  obtain ⟨hg, hn⟩ := and_e (Cond.before_iff.mp (show (Jvm.Cond.and given_1 narrow_1).before args s = true from hpre))
  obtain ⟨g1, g2⟩ := and_e hg
  obtain ⟨g3, g4⟩ := and_e g2
  obtain ⟨w0, w1, rfl⟩ : ∃ w0 w1 : Value, args = #[w0, w1] := by
    have hs : args.size = 2 := by simpa [Cond.value, given_1] using g1
    obtain ⟨L⟩ := args
    match L, hs with
    | [w0, w1], _ => exact ⟨w0, w1, rfl⟩
  have hw := fun d (hd : d ∈ tables_1) => atoms_spec (ws := Jvm.Cond.code x code maxLocals ret :: tables_1) hat d (List.mem_cons_of_mem _ hd)
  have hfit : Fit s := fun {y c} hc i hi => by
    obtain ⟨ha, rfl⟩ := Array.getElem?_eq_some_iff.mp hc
    have q := List.all_eq_true.mp ((Array.all_eq_true_iff_forall_mem.mp hF) _ (Array.getElem_mem ha)) i (List.mem_range.mpr hi)
    simpa [Array.getElem?_eq_getElem hi] using q
  obtain ⟨i0, ei0⟩ := isL_v g3
  obtain rfl : w0 = (.long i0) := Option.some.inj ei0
  obtain ⟨i1, ei1⟩ := is_v g4
  obtain rfl : w1 = (.int i1) := Option.some.inj ei1
  obtain ⟨n, o, h1, h2, h3, _, L, rfl, ⟨rfl, N⟩, hq⟩ := rm0 l s _ hw tables_1 i0 i1 s.heap s.heap.size (Nat.le_refl _) p e ha hc hk s m _ below hf ((Spec.applies_iff_loose hf).mp happ).1 ⟨rfl, State.Warmed39.refl s, rfl⟩ trivial
  refine ⟨n, _, h1, h2, h3, hpost _ _ _ _ _ _ ⟨Cond.after_iff.mpr rfl, Cond.after_iff.mpr (eq_i res_at (Term.int_eval (1)) rfl), trivial⟩ ⟨hq.1, hq.2.1, (hq.2.2.sift fun y hy => Or.inr (N y hy)).mono (by decide) (by decide)⟩⟩
theorem main_1_1 : Claimed_1_1 := comes_1 fun _ _ _ _ _ _ h hF => ⟨h.1, hF⟩
theorem main_1_2 : Claimed_1_2 := comes_1 fun _ _ _ _ _ _ h hF => ⟨h.2.1, hF⟩
end Jvm.Pilot.@@N@@
namespace Jvm.Pilot.@@N@@
open Jvm Jvm.ClassFile Sem Op Lib Jvm.Free Jvm.Stand Jvm.Pilot.@@N@@.Jvm.D
/-! MADE BY PROGRAM (witnessworld.py) out of the Statement's table words and the real class files: 9 classes; the members and pool entries that the words name. The judged class is class 1, her method 1. -/
namespace start1
open Jvm.ClassFile
def u (s : String) : CpInfo := .utf8 (stringToUtf16 s)
/-- a pool by its gaps: so many unusable entries, then the entry; so many at the end -/
def gap : Nat → List CpInfo → List CpInfo
  | 0, r => r
  | n + 1, r => .unusable :: gap n r
def poolList (es : List (Nat × CpInfo)) (last : Nat) : List CpInfo := es.foldr (fun e r => gap e.1 (e.2 :: r)) (gap last [])
def pool (es : List (Nat × CpInfo)) (last : Nat) : Array CpInfo := ⟨poolList es last⟩
def fileOf (pool : Array CpInfo) (this : Nat) (attrs : Array Attribute := #[]) (ms : Array MethodInfo := #[]) (fl : Nat := 33) (sup : Nat := 0) (ifs : Array Nat := #[]) (fds : Array FieldInfo := #[]) : ClassFile where
  minorVersion := 0
  majorVersion := 65
  constantPool := pool
  accessFlags := fl
  thisClass := this
  superClass := sup
  interfaces := ifs
  fields := fds
  methods := ms
  attributes := attrs
def plain (name : String) (sup : Option ClassId) : Class where
  name := name
  kind := .ordinary
  loader := none
  accessFlags := 33
  super := sup
  interfaces := #[]
  cf := none
  fields := #[]
  methods := #[]
  instanceTypes := #[]
  staticTypes := #[]
  resolved := #[]
  callSites := []
  init := .initialized
  statics := none
  mirror := none

def pool0 : Array CpInfo := pool [(5, u "<init>"), (0, u "()V"), (1, .class_ 10), (1, u "java/lang/Object")] 113

def k0m0 : Method := { name := "<init>", desc := "()V", sig := { parameters := [], returnType := none }, accessFlags := 1, code := none }
/-- java/lang/Object -/
def k0 : Class := { plain "java/lang/Object" none with
  accessFlags := 33
  interfaces := #[]
  cf := some (fileOf pool0 8 #[] #[{ accessFlags := 1, nameIndex := 5, descriptorIndex := 6, attributes := #[] }] 33 0 #[] #[])
  fields := #[]
  methods := #[k0m0]
  instanceTypes := #[]
  staticTypes := #[]
  resolved := Array.replicate 124 none
  statics := none }

def pool1 : Array CpInfo := pool [(2, .class_ 4), (1, u "java/lang/Object"), (0, u "<init>"), (0, u "()V"), (0, .methodref 8 9), (0, .class_ 10), (0, .nameAndType 11 12), (0, u "com/example/expire_then_sweep/expirethensweep/model/ContainerSettingsIsTimeToLivePinLaw"), (0, u "boundary"), (0, u "(I)J"), (0, .methodref 14 15), (0, .class_ 16), (0, .nameAndType 17 18), (0, u "com/example/expire_then_sweep/expirethensweep/model/ContainerSettings"), (0, u "isTimeToLive"), (0, u "(J)Z"), (0, .methodref 8 20), (0, .nameAndType 21 18), (0, u "ref"), (0, .long 18446744073709551614), (1, .long 18446744073709551615), (1, .long 2147483647), (1, .long 2147483648), (3, .long 9223372036854775808), (1, .long 9223372036854775807), (3, u "law"), (0, u "(JI)Z")] 3

def k1m0 : Method := { name := "<init>", desc := "()V", sig := { parameters := [], returnType := none }, accessFlags := 1, code := none }
def k1c1 : Code := { maxStack := 3, maxLocals := 7, code := code, exceptionTable := #[], attributes := #[] }
def k1m1 : Method := { name := "law", desc := "(JI)Z", sig := { parameters := [.long, .int], returnType := some .boolean }, accessFlags := 9, code := some k1c1 }
def k1c2 : Code := { maxStack := 4, maxLocals := 3, code := method_3_code, exceptionTable := #[], attributes := #[] }
def k1m2 : Method := { name := "ref", desc := "(J)Z", sig := { parameters := [.long], returnType := some .boolean }, accessFlags := 10, code := some k1c2 }
def k1c3 : Code := { maxStack := 2, maxLocals := 1, code := method_4_code, exceptionTable := #[], attributes := #[] }
def k1m3 : Method := { name := "boundary", desc := "(I)J", sig := { parameters := [.int], returnType := some .long }, accessFlags := 10, code := some k1c3 }
/-- com/example/expire_then_sweep/expirethensweep/model/ContainerSettingsIsTimeToLivePinLaw -/
def k1 : Class := { plain "com/example/expire_then_sweep/expirethensweep/model/ContainerSettingsIsTimeToLivePinLaw" (some 0) with
  accessFlags := 49
  interfaces := #[]
  cf := some (fileOf pool1 8 #[] #[{ accessFlags := 1, nameIndex := 5, descriptorIndex := 6, attributes := #[] }, { accessFlags := 9, nameIndex := 38, descriptorIndex := 39, attributes := #[] }, { accessFlags := 10, nameIndex := 21, descriptorIndex := 18, attributes := #[] }, { accessFlags := 10, nameIndex := 11, descriptorIndex := 12, attributes := #[] }] 49 2 #[] #[])
  fields := #[]
  methods := #[k1m0, k1m1, k1m2, k1m3]
  instanceTypes := #[]
  staticTypes := #[]
  resolved := Array.replicate 43 none
  statics := none }

def pool2 : Array CpInfo := pool [(4, .class_ 6), (1, u "java/lang/Object"), (3, .class_ 12), (1, u "com/example/expire_then_sweep/expirethensweep/model/ContainerSettings"), (0, u "defaultTimeToLive"), (0, u "Ljava/util/OptionalLong;"), (2, u "throughput"), (0, u "Ljava/util/OptionalInt;"), (2, u "isTimeToLive"), (0, u "(J)Z"), (33, .long 18446744073709551615), (1, .long 2147483647), (1, u "MAX_TIME_TO_LIVE"), (0, u "J"), (1, u "NEVER")] 27

def k2c0 : Code := { maxStack := 4, maxLocals := 2, code := prog_5_method_7_code, exceptionTable := #[], attributes := #[] }
def k2m0 : Method := { name := "isTimeToLive", desc := "(J)Z", sig := { parameters := [.long], returnType := some .boolean }, accessFlags := 9, code := some k2c0 }
/-- com/example/expire_then_sweep/expirethensweep/model/ContainerSettings -/
def k2 : Class := { plain "com/example/expire_then_sweep/expirethensweep/model/ContainerSettings" (some 0) with
  accessFlags := 49
  interfaces := #[]
  cf := some (fileOf pool2 10 #[] #[{ accessFlags := 9, nameIndex := 21, descriptorIndex := 22, attributes := #[] }] 49 4 #[] #[{ accessFlags := 25, nameIndex := 60, descriptorIndex := 61, attributes := #[] }, { accessFlags := 25, nameIndex := 63, descriptorIndex := 61, attributes := #[] }, { accessFlags := 18, nameIndex := 13, descriptorIndex := 14, attributes := #[] }, { accessFlags := 18, nameIndex := 17, descriptorIndex := 18, attributes := #[] }])
  fields := #[{ name := "MAX_TIME_TO_LIVE", type := .long, accessFlags := 25, slot := 0, constantValue := 0 }, { name := "NEVER", type := .long, accessFlags := 25, slot := 1, constantValue := 0 }, { name := "defaultTimeToLive", type := (.object "java/util/OptionalLong"), accessFlags := 18, slot := 0, constantValue := 0 }, { name := "throughput", type := (.object "java/util/OptionalInt"), accessFlags := 18, slot := 1, constantValue := 0 }]
  methods := #[k2m0]
  instanceTypes := #[(.object "java/util/OptionalLong"), (.object "java/util/OptionalInt")]
  staticTypes := #[.long, .long]
  resolved := Array.replicate 91 none
  statics := none }

def pool3 : Array CpInfo := pool [(1, u "java/lang/Cloneable"), (0, .class_ 1), (0, u "java/lang/Object"), (0, .class_ 3)] 3

/-- java/lang/Cloneable -/
def k3 : Class := { plain "java/lang/Cloneable" (some 0) with
  accessFlags := 1537
  interfaces := #[]
  cf := some (fileOf pool3 2 #[] #[] 1537 4 #[] #[])
  fields := #[]
  methods := #[]
  instanceTypes := #[]
  staticTypes := #[]
  resolved := Array.replicate 8 none
  statics := none }

def pool4 : Array CpInfo := pool [(1, u "java/io/Serializable"), (0, .class_ 1), (0, u "java/lang/Object"), (0, .class_ 3)] 3

/-- java/io/Serializable -/
def k4 : Class := { plain "java/io/Serializable" (some 0) with
  accessFlags := 1537
  interfaces := #[]
  cf := some (fileOf pool4 2 #[] #[] 1537 4 #[] #[])
  fields := #[]
  methods := #[]
  instanceTypes := #[]
  staticTypes := #[]
  resolved := Array.replicate 8 none
  statics := none }

/-- the primitive byte -/
def k5 : Class := { plain "byte" none with kind := .primitive 'B', accessFlags := 0x411 }
/-- [B -/
def k6 : Class := { plain "[B" (some 0) with kind := .array 5 .byte, interfaces := #[3, 4], accessFlags := 1041 }

/-- the primitive int -/
def k7 : Class := { plain "int" none with kind := .primitive 'I', accessFlags := 0x411 }
/-- [I -/
def k8 : Class := { plain "[I" (some 0) with kind := .array 7 .int, interfaces := #[3, 4], accessFlags := 1041 }

def heap : Heap := #[]
def classes : Array Class := #[k0, k1, k2, k3, k4, k5, k6, k7, k8]
def interned : List (Array UInt16 × Addr) := []
def slotsUsed : Nat := 0
def theMethod : MethodId := ⟨1, 1⟩
def args0 : Array Value := #[.long 5, .int 3]
def aboutOver (below : List Frame) : State where
  vm := { classes := classes, interned := interned.toArray }
  heap := heap
  slotsUsed := slotsUsed
  threads := #[{ frames := .invoking theMethod args0 :: below }]
def below0 : List Frame := [.native { method := ⟨0, 0⟩, args := #[] }]
def about1 : State := aboutOver below0
def p0 : Program := .bare "" "" ""
def e0 : Env := launch0.env 0 0 0
theorem w_frames : about1.frames = Frame.invoking theMethod args0 :: below0 := rfl
set_option maxRecDepth 65536 in
theorem w_args : argsFit about1.vm theMethod args0 = true := by decide +kernel
set_option maxRecDepth 65536 in
theorem w_heap : heapFits about1 = true := by decide +kernel
set_option maxRecDepth 65536 in
theorem w_runnable : about1.curStatus? = some .runnable := by decide +kernel
set_option maxRecDepth 65536 in
theorem w_alone : about1.alone = true := by decide +kernel
set_option maxRecDepth 65536 in
theorem w_named : about1.methodNamed? x = some theMethod := by decide +kernel
set_option maxRecDepth 65536 in
theorem w_hears : about1.hears theMethod below0 = true := by decide +kernel
set_option maxRecDepth 65536 in
theorem w_ripe : about1.ripe theMethod args0 below0 = true := by decide +kernel
theorem w_running : about1.status = .running := rfl
set_option maxRecDepth 65536 in
theorem w_room : about1.hasRoom e0.platform room_1 = true :=
  launch0.hasRoom_least _ room_1 (by decide +kernel) (by decide +kernel) (by decide +kernel) (by decide +kernel) (by decide +kernel) (by decide +kernel)
theorem allAtoms_all (ts : List Jvm.Cond) (a : Array Jvm.Value) (st : Jvm.State) : (allAtoms ts).before a st = ts.all (fun c => c.before a st) := by
  induction ts with
  | nil => rfl
  | cons c t ih =>
    show (Jvm.Cond.and c (allAtoms t)).before a st = _
    rw [Jvm.Cond.before_and, ih, List.all_cons]
def words1 : List Jvm.Cond := Jvm.Cond.code x code maxLocals ret :: tables_1
/-- a 'code' word, met by the world's own term for the bytes: nothing is compared byte by byte -/
theorem code_word {y : MethodName} {bytes : ByteArray} {mx : Nat} {rt : Option FieldType} {a : Array Value} {s : State} {m : MethodId} {meth : Method} {c : Code} (h1 : s.methodNamed? y = some m) (h2 : s.vm.method? m = some meth) (h3 : meth.code = some c) (h4 : c.code = bytes)
    (h5 : (c.maxLocals == mx && c.exceptionTable.isEmpty && decide (c.maxStack ≤ mostOperands) && decide (meth.sig.returnType = rt) && !meth.locks && decide (parseMethodDescriptor y.desc = some meth.sig)) = true) : (Jvm.Cond.code y bytes mx rt).before a s = true := by
  simp only [Bool.and_eq_true, beq_iff_eq, Bool.not_eq_true', decide_eq_true_eq] at h5
  obtain ⟨⟨⟨⟨⟨g1, g2⟩, g3⟩, g4⟩, g5⟩, g6⟩ := h5
  simp [Cond.before, Cond.holds, Cond.value, h1, h2, h3, h4, g1, g2, g3, g4, g5, g6]
def isCode : Jvm.Cond → Bool
  | .code _ _ _ _ => true
  | _ => false
theorem all_split {L : List Jvm.Cond} {P : Jvm.Cond → Bool} (h1 : L.all (fun c => isCode c || P c) = true) (h2 : ∀ c ∈ L.filter isCode, P c = true) : L.all P = true := by
  refine List.all_eq_true.mpr fun c hc => ?_
  have h := List.all_eq_true.mp h1 c hc
  rcases Bool.eq_false_or_eq_true (isCode c) with hi | hi
  · exact h2 c (List.mem_filter.mpr ⟨hc, hi⟩)
  · simpa [hi] using h
set_option maxRecDepth 65536 in
theorem w_c0 : (Jvm.Cond.code x code maxLocals ret).before args0 about1 = true := code_word (m := ⟨1, 1⟩) (meth := k1m1) (c := k1c1) (by decide +kernel) rfl rfl rfl (by decide +kernel)
set_option maxRecDepth 65536 in
theorem w_c1 : (Jvm.Cond.code ({ cls := "com/example/expire_then_sweep/expirethensweep/model/ContainerSettingsIsTimeToLivePinLaw", name := "boundary", desc := "(I)J" } : Jvm.MethodName) method_4_code (1 : Nat) (Option.some Jvm.ClassFile.FieldType.long)).before args0 about1 = true := code_word (m := ⟨1, 3⟩) (meth := k1m3) (c := k1c3) (by decide +kernel) rfl rfl rfl (by decide +kernel)
set_option maxRecDepth 65536 in
theorem w_c2 : (Jvm.Cond.code ({ cls := "com/example/expire_then_sweep/expirethensweep/model/ContainerSettings", name := "isTimeToLive", desc := "(J)Z" } : Jvm.MethodName) prog_5_method_7_code (2 : Nat) (Option.some Jvm.ClassFile.FieldType.boolean)).before args0 about1 = true := code_word (m := ⟨2, 0⟩) (meth := k2m0) (c := k2c0) (by decide +kernel) rfl rfl rfl (by decide +kernel)
set_option maxRecDepth 65536 in
theorem w_c3 : (Jvm.Cond.code ({ cls := "com/example/expire_then_sweep/expirethensweep/model/ContainerSettingsIsTimeToLivePinLaw", name := "ref", desc := "(J)Z" } : Jvm.MethodName) method_3_code (3 : Nat) (Option.some Jvm.ClassFile.FieldType.boolean)).before args0 about1 = true := code_word (m := ⟨1, 2⟩) (meth := k1m2) (c := k1c2) (by decide +kernel) rfl rfl rfl (by decide +kernel)
def codes1 : List Jvm.Cond := [Jvm.Cond.code x code maxLocals ret, Jvm.Cond.code ({ cls := "com/example/expire_then_sweep/expirethensweep/model/ContainerSettingsIsTimeToLivePinLaw", name := "boundary", desc := "(I)J" } : Jvm.MethodName) method_4_code (1 : Nat) (Option.some Jvm.ClassFile.FieldType.long), Jvm.Cond.code ({ cls := "com/example/expire_then_sweep/expirethensweep/model/ContainerSettings", name := "isTimeToLive", desc := "(J)Z" } : Jvm.MethodName) prog_5_method_7_code (2 : Nat) (Option.some Jvm.ClassFile.FieldType.boolean), Jvm.Cond.code ({ cls := "com/example/expire_then_sweep/expirethensweep/model/ContainerSettingsIsTimeToLivePinLaw", name := "ref", desc := "(J)Z" } : Jvm.MethodName) method_3_code (3 : Nat) (Option.some Jvm.ClassFile.FieldType.boolean)]
set_option maxRecDepth 65536 in
theorem codes_eq : words1.filter isCode = codes1 := rfl
theorem w_codes : ∀ c ∈ words1.filter isCode, c.before args0 about1 = true := by
  rw [codes_eq]
  intro c hc
  simp only [codes1, List.mem_cons, List.not_mem_nil, or_false] at hc
  rcases hc with rfl | rfl | rfl | rfl
  · exact w_c0
  · exact w_c1
  · exact w_c2
  · exact w_c3
set_option maxRecDepth 65536 in
theorem w_t1 : words1.all (fun c => isCode c || c.before args0 about1) = true := by decide +kernel
theorem w_tables : (allAtoms (Jvm.Cond.code x code maxLocals ret :: tables_1)).before args0 about1 = true := by
  rw [allAtoms_all]
  show words1.all (fun c => c.before args0 about1) = true
  refine all_split ?_ w_codes
  rw [w_t1]
set_option maxRecDepth 65536 in
theorem w_case : (Jvm.Cond.and given_1 narrow_1).before args0 about1 = true := by decide +kernel
theorem w_applies : (headSpec (Jvm.Cond.code x code maxLocals ret :: tables_1) room_1).applies x e0.platform about1 = true :=
  (Spec.applies_iff w_frames).mpr ⟨w_running, w_runnable, w_alone, w_named, w_hears, w_ripe, w_room, w_tables⟩
theorem atStart : AtStart classFile x code maxLocals ret World_1 tables_1 room_1 Calls_1 rest_1 Pre_1 launch0 p0 e0 about1 theMethod args0 below0 :=
  ⟨lists_1, trivial, launch0.admits_env _ _ _, launch0.least_env, fairChoices_fair.cas, fairChoices_fair.clock, w_frames, w_args, w_heap, w_applies, trivial, trivial, w_case⟩
end start1
theorem witness_1 : WitnessClaimed_1 := ⟨start1.p0, start1.e0, start1.about1, start1.theMethod, start1.args0, start1.below0, start1.atStart⟩
end Jvm.Pilot.@@N@@
