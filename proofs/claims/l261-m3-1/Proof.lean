import JvmDerived
import JvmDerived.Pilot.@@N@@Statement
import JvmDerived.Pilot.@@N@@Code
set_option linter.unusedVariables false
set_option linter.unusedSimpArgs false
namespace Jvm.RoadKit
open Sem ClassFile Op Lib Jvm.Stand Jvm.Free Jvm.LawKit
section New
variable {p : Program} {l : Launch} {e : Env} {R : Room} {s : State} {m : MethodId} {args : Array Value} {below : List Frame} {meth : Method} {c : Code} {T : State} {locs : List Loc} {cells slots : Nat}
theorem retI (X : Stand p l e R s m args below meth c T locs cells slots) (hx : p.tables.exec = Jvm.exec) {pc : Nat} {Ls : Array Slot} {z : Int32} {rest : List Value} (hret : meth.sig.returnType = some .int) (hd : decode c.code pc = .ok (.ireturn, 1)) {fs : List Frame}
    (hl : ∀ (f : JFrame) (acts : List Action), f.method = m → f.locked = none → f.entered = [] → (doReturn e (T.setTop f) acts (some (.int z))).1 = T.setFrames fs) : Steps p.tables e below (T.setTop (mkF m pc Ls (.int z :: rest))) (T.setFrames fs) := by
  have hm' : T.vm.method? m = some meth := X.method'
  have hn : narrow .int (.int z) = .int z := rfl
  show Steps p.tables e below (T.setTop { method := m, pc := pc, locals := Ls, stack := _ :: rest, locked := none }) _
  jvm_step X.here [X.here.top, hx, hd, hm', hret, hn]
  first | (intro acts; rw [hl _ acts rfl rfl rfl]) | rw [hl _ _ rfl rfl rfl]
  exact Steps.refl _
end New
end Jvm.RoadKit
namespace Jvm.Pilot.@@N@@
open Jvm Jvm.ClassFile Sem Op Lib Jvm.Free Jvm.Stand Jvm.LawKit Jvm.RoadKit Bundle Jvm.Pilot.@@N@@.Jvm.D
/-- from the state T the run comes to a state of which K holds -/
def own_Go (p : Program) (e : Env) (below : List Frame) (K : State → Prop) (T : State) : Prop := ∃ t, Steps p.tables e below T t ∧ K t
theorem own_st {p : Program} {e : Env} {below : List Frame} {K : State → Prop} {T T' : State} (h : ∀ t, Steps p.tables e below T' t → Steps p.tables e below T t) (g : own_Go p e below K T') : own_Go p e below K T := by
  obtain ⟨t, a, b⟩ := g; exact ⟨t, h t a, b⟩
theorem own_tr {p : Program} {e : Env} {below : List Frame} {K : State → Prop} {T T' : State} (h : Steps p.tables e below T T') (g : own_Go p e below K T') : own_Go p e below K T := by
  obtain ⟨t, a, b⟩ := g; exact ⟨t, h.trans a, b⟩
theorem own_lrem {tb : Tables} [Ours tb] {e : Env} {below : List Frame} {T target : State} {m : MethodId} {c : Code} {g : JFrame} (h : At T m c below) (hx : tb.exec = Jvm.exec) (hg : g.method = m) {x y : Int64} {rest : List Value} (hd : decode c.code g.pc = .ok (.lrem, 1)) (hs : g.stack = .long y :: .long x :: rest) (hy : y ≠ 0)
    (hr : Steps tb e below (T.setTop { g with pc := g.pc + 1, stack := .long (x % y) :: rest }) target) : Steps tb e below (T.setTop g) target := by
  have q : x - x / y * y = x % y := lrem_mod x y
  exact XS.lrem h hx hg hd hs hy (by rw [q]; exact hr)
/-- a boolean's worth: 1 where P holds, 0 where it doesn't -/
def own_B (P : Prop) (r : Int32) : Prop := (r = 1 ∧ P) ∨ (r = 0 ∧ ¬ P)
theorem own_B.yes {P : Prop} {r : Int32} (e : r = 1) (h : P) : own_B P r := Or.inl ⟨e, h⟩
theorem own_B.no {P : Prop} {r : Int32} (e : r = 0) (h : ¬ P) : own_B P r := Or.inr ⟨e, h⟩
theorem own_B.same {P Q : Prop} {r v : Int32} (a : own_B P r) (b : own_B Q v) (h : P ↔ Q) : r = v := by
  rcases a with ⟨rfl, p⟩ | ⟨rfl, p⟩ <;> rcases b with ⟨rfl, q⟩ | ⟨rfl, q⟩
  · rfl
  · exact absurd (h.mp p) q
  · exact absurd (h.mpr q) p
  · rfl
theorem own_B.one {P : Prop} {r : Int32} (a : own_B P r) (h : P) : r = 1 := by
  rcases a with ⟨rfl, p⟩ | ⟨rfl, p⟩
  · rfl
  · exact absurd h p
theorem own_B.zero {P : Prop} {r : Int32} (a : own_B P r) (h : ¬ P) : r = 0 := by
  rcases a with ⟨rfl, p⟩ | ⟨rfl, p⟩
  · exact absurd p h
  · rfl
theorem own_B.ne0 {P : Prop} {r : Int32} (a : own_B P r) (h : P) : ¬ r = 0 := by rw [a.one h]; decide
theorem own_B.holds {P : Prop} {r : Int32} (a : own_B P r) (h : ¬ r = 0) : P := by
  rcases a with ⟨rfl, p⟩ | ⟨rfl, p⟩
  · exact p
  · exact absurd rfl h
theorem own_B.fails {P : Prop} {r : Int32} (a : own_B P r) (h : r = 0) : ¬ P := by
  rcases a with ⟨rfl, p⟩ | ⟨rfl, p⟩
  · exact absurd h (by decide)
  · exact p
theorem own_atJ (ws : List Int64) (i : Nat) : (ws.map Value.long).getD i (.long (0 : Int64)) = .long (ws.getD i 0) := by
  simp only [List.getD, List.getElem?_map]; cases ws[i]? <;> rfl
theorem own_atI (ws : List Int32) (i : Nat) : (ws.map Value.int).getD i (.int (0 : Int32)) = .int (ws.getD i 0) := by
  simp only [List.getD, List.getElem?_map]; cases ws[i]? <;> rfl
theorem own_selp {Z s : State} {a0 args : Array Value} {y : MethodName} {n : Nat} (hZ : Z.Warmed39 s.vm) (wi : (Jvm.Cond.instantiable y.cls n).before a0 Z = true) (wm : (Jvm.Cond.instanceMethod y).before a0 Z = true) (wp : (Jvm.Cond.privateMethod y).before a0 Z = true) (hy : y.cls ≠ "java/lang/invoke/MethodHandle" ∧ y.cls ≠ "java/lang/invoke/VarHandle") : (Jvm.Cond.selects y.cls y y).before args s = true := by
  have w1 : (Jvm.Cond.instantiable y.cls n).before args s = true := mvT hZ wi
  obtain ⟨c, k, h1, h2, h3, h4, -⟩ := Cond.instantiable_spec w1
  have h5 : k.isInterface = false := by cases hq : k.isInterface <;> simp [hq] at h4 ⊢
  exact selects_self_of_private h1 h2 h5 (Cond.privateMethod_at (mvP hZ wp (args := args))) (mvT hZ wm) hy
theorem own_hat {T : State} {h : Heap} {a : Addr} {c : Cell} (e : T.heap = h) (q : h[a]? = some c) : T.heap[a]? = some c := by rw [e]; exact q
theorem own_nn (x : Int32) : nar .byte (nar .byte x) = nar .byte x := by
  refine Int32.toInt_inj.mp ?_
  have a := c_i2b x
  have b := c_i2b x.toInt8.toInt32
  show x.toInt8.toInt32.toInt8.toInt32.toInt = x.toInt8.toInt32.toInt
  omega
theorem own_nb (x : Int32) : nar .byte x.toInt8.toInt32 = x.toInt8.toInt32 := own_nn x
theorem own_fit {x : Int32} (h : nar .byte x = x) : fits .byte (.int x) = true := by rw [← h]; exact fits_nar_byte x
theorem own_cl {j : Int32} {i : Nat} (h : j.toInt = (i : Int)) : j.toNatClampNeg = i := by rw [Int32.toNatClampNeg, h]; rfl
theorem own_lt {a b : Int32} (h : a.toInt < b.toInt) : a < b := Int32.lt_iff_toInt_lt.mpr h
theorem own_nlt {a b : Int32} (h : b.toInt ≤ a.toInt) : ¬ a < b := fun q => absurd (Int32.lt_iff_toInt_lt.mp q) (by omega)
theorem own_ltI {a b : Int32} (h : a < b) : a.toInt < b.toInt := Int32.lt_iff_toInt_lt.mp h
theorem own_nltI {a b : Int32} (h : ¬ a < b) : b.toInt ≤ a.toInt := by have := mt Int32.lt_iff_toInt_lt.mpr h; omega
theorem own_neI {a b : Int32} (h : ¬ a = b) : ¬ a.toInt = b.toInt := fun q => h (Int32.toInt_inj.mp q)
theorem own_ltL {a b : Int64} (h : a < b) : a.toInt < b.toInt := Int64.lt_iff_toInt_lt.mp h
theorem own_nltL {a b : Int64} (h : ¬ a < b) : b.toInt ≤ a.toInt := by have := mt Int64.lt_iff_toInt_lt.mpr h; omega
theorem own_neL {a b : Int64} (h : ¬ a = b) : ¬ a.toInt = b.toInt := fun q => h (Int64.toInt_inj.mp q)
theorem own_fdA {x y : Int64} (hy : y = 1000) (h : ¬ (x ^^^ y) < (0 : Int64)) : (x / y).toInt = x.toInt / 1000 := by
  subst hy
  have h' : (0 : Int) ≤ (x ^^^ (1000 : Int64)).toInt := own_nltL h
  have s := c_xorSL x 1000
  have t : (1000 : Int64).toInt = 1000 := by decide
  have hx : 0 ≤ x.toInt := by
    rcases Int.lt_or_le x.toInt 0 with q | q
    · have := s.2.1 q (by omega)
      omega
    · exact q
  exact (c_ldiv x 1000 1000 (by decide) (by decide)).1 hx
theorem own_fdN {x y : Int64} (hy : y = 1000) (h : (x ^^^ y) < (0 : Int64)) : x.toInt < 0 ∧ (x / y).toInt = -((-x.toInt) / 1000) ∧ (x / y * y).toInt = (x / y).toInt * 1000 := by
  subst hy
  have h' : (x ^^^ (1000 : Int64)).toInt < (0 : Int) := own_ltL h
  have s := c_xorSL x 1000
  have t : (1000 : Int64).toInt = 1000 := by decide
  have hx : x.toInt < 0 := by
    rcases Int.lt_or_le x.toInt 0 with q | q
    · exact q
    · have := s.2.2.2 q (by omega)
      omega
  have e := (c_ldiv x 1000 1000 (by decide) (by decide)).2 hx
  have m := c_lmul (x / 1000) 1000
  have r := rng64 x
  have r' := rng64 (x / 1000 * 1000)
  rw [t] at m
  refine ⟨hx, e, ?_⟩
  omega
theorem own_fdB {x y : Int64} (hy : y = 1000) (h : (x ^^^ y) < (0 : Int64)) (h2 : (x / y) * y = x) : (x / y).toInt = x.toInt / 1000 := by
  obtain ⟨hx, e, m⟩ := own_fdN hy h
  rw [h2] at m
  omega
theorem own_fdC {x y : Int64} (hy : y = 1000) (h : (x ^^^ y) < (0 : Int64)) (h2 : ¬ (x / y) * y = x) : (x / y - (1 : Int64)).toInt = x.toInt / 1000 := by
  obtain ⟨hx, e, m⟩ := own_fdN hy h
  have n := own_neL h2
  rw [m] at n
  have s := c_lsub (x / y) 1
  have t : (1 : Int64).toInt = 1 := by decide
  have r := rng64 x
  have r' := rng64 (x / y - 1)
  rw [t] at s
  omega
theorem own_ns {x f : Int64} (h : ¬ (9223372036854774807 : Int64) < x) (hf : f.toInt = x.toInt / 1000) : ((f + (1 : Int64)) * (1000 : Int64)).toInt = (x.toInt / 1000 + 1) * 1000 := by
  have h' : x.toInt ≤ (9223372036854774807 : Int) := own_nltL h
  have a := c_ladd f 1
  have m := c_lmul (f + 1) 1000
  have t1 : (1 : Int64).toInt = 1 := by decide
  have t2 : (1000 : Int64).toInt = 1000 := by decide
  have r := rng64 x
  have r1 := rng64 (f + 1)
  have r2 := rng64 ((f + 1) * 1000)
  rw [t1] at a
  rw [t2] at m
  omega
theorem own_m0 {x r : Int64} (h : r.toInt = (x.toInt / 1000 + 1) * 1000) : r % (1000 : Int64) = (0 : Int64) := by
  refine Int64.toInt_inj.mp ?_
  have t2 : (1000 : Int64).toInt = 1000 := by decide
  rw [Int64.toInt_mod, h, t2]
  show Int.tmod ((x.toInt / 1000 + 1) * 1000) 1000 = 0
  exact Int.mul_tmod_left _ _
theorem own_m1 {x r : Int64} (h : r.toInt = (x.toInt / 1000 + 1) * 1000) : x < r := by
  rw [Int64.lt_iff_toInt_lt]; omega
theorem own_m2 {x r : Int64} (hx : ¬ (9223372036854774807 : Int64) < x) (h : r.toInt = (x.toInt / 1000 + 1) * 1000) : ¬ (x + (1000 : Int64)) < r := by
  rw [Int64.lt_iff_toInt_lt]
  have h' : x.toInt ≤ (9223372036854774807 : Int) := own_nltL hx
  have a := c_ladd x 1000
  have t2 : (1000 : Int64).toInt = 1000 := by decide
  have r0 := rng64 x
  have r1 := rng64 (x + 1000)
  rw [t2] at a
  omega
theorem d2_0 : decode jdk_29_method_49_code 0 = .ok (.lload_n 0, 1) := by decide +kernel
theorem d2_1 : decode jdk_29_method_49_code 1 = .ok (.lload_n 2, 1) := by decide +kernel
theorem d2_2 : decode jdk_29_method_49_code 2 = .ok (.ldiv, 1) := by decide +kernel
theorem d2_3 : decode jdk_29_method_49_code 3 = .ok (.lstore 4, 2) := by decide +kernel
theorem d2_5 : decode jdk_29_method_49_code 5 = .ok (.lload_n 0, 1) := by decide +kernel
theorem d2_6 : decode jdk_29_method_49_code 6 = .ok (.lload_n 2, 1) := by decide +kernel
theorem d2_7 : decode jdk_29_method_49_code 7 = .ok (.lxor, 1) := by decide +kernel
theorem d2_8 : decode jdk_29_method_49_code 8 = .ok (.lconst 0, 1) := by decide +kernel
theorem d2_9 : decode jdk_29_method_49_code 9 = .ok (.lcmp, 1) := by decide +kernel
theorem d2_10 : decode jdk_29_method_49_code 10 = .ok (.ifCond .ge 17, 3) := by decide +kernel
theorem d2_13 : decode jdk_29_method_49_code 13 = .ok (.lload 4, 2) := by decide +kernel
theorem d2_15 : decode jdk_29_method_49_code 15 = .ok (.lload_n 2, 1) := by decide +kernel
theorem d2_16 : decode jdk_29_method_49_code 16 = .ok (.lmul, 1) := by decide +kernel
theorem d2_17 : decode jdk_29_method_49_code 17 = .ok (.lload_n 0, 1) := by decide +kernel
theorem d2_18 : decode jdk_29_method_49_code 18 = .ok (.lcmp, 1) := by decide +kernel
theorem d2_19 : decode jdk_29_method_49_code 19 = .ok (.ifCond .eq 8, 3) := by decide +kernel
theorem d2_22 : decode jdk_29_method_49_code 22 = .ok (.lload 4, 2) := by decide +kernel
theorem d2_24 : decode jdk_29_method_49_code 24 = .ok (.lconst 1, 1) := by decide +kernel
theorem d2_25 : decode jdk_29_method_49_code 25 = .ok (.lsub, 1) := by decide +kernel
theorem d2_26 : decode jdk_29_method_49_code 26 = .ok (.lreturn, 1) := by decide +kernel
theorem d2_27 : decode jdk_29_method_49_code 27 = .ok (.lload 4, 2) := by decide +kernel
theorem d2_29 : decode jdk_29_method_49_code 29 = .ok (.lreturn, 1) := by decide +kernel
theorem ef_2 (m : MethodId) (x0 : Int64) (x1 : Int64) : entryFrame m #[(.long x0), (.long x1)] 6 = mkF m 0 #[.val (.long x0), .second, .val (.long x1), .second, .unset, .unset] [] := by first | (simp [entryFrame, mkF, argsToLocals, Value.category]; done) | rfl
def Q2 (Z : State) (q1 : Int64) (q2 : Int64) (h0 : Heap) (n0 : Nat) (v : Option Value) (h : Heap) (L : List Loc) : Prop := ∃ (r : Int64), v = some (.long r) ∧ (r.toInt = q1.toInt / 1000) ∧ Fr n0 L ∧ h = h0
set_option maxRecDepth 65536 in
set_option maxHeartbeats 40000000 in
theorem rm2 (l : Launch) (Z : State) (a0 : Array Value) (hw : ∀ d ∈ tables_1, d.before a0 Z = true) (ws : List Jvm.Cond) (q1 : Int64) (q2 : Int64) (h0 : Heap) (n0 : Nat) (Z0 : n0 ≤ h0.size) (hy : q2 = 1000) :
    MetFree l (⟨"java/lang/Math", "floorDiv", "(JJ)J"⟩ : MethodName) (head1 (Jvm.Cond.code (⟨"java/lang/Math", "floorDiv", "(JJ)J"⟩ : MethodName) jdk_29_method_49_code 6 (some .long) :: ws) ({ frames := 0, cells := 0, slots := 0, locals := 0 } : Room)) (fun a U => a = #[(.long q1), (.long q2)] ∧ Z.Warmed39 U.vm ∧ U.heap = h0) (fun _ _ _ _ _ => True) (fun _ U o U' => ∃ v L, o = .returned v ∧ Q2 Z q1 q2 h0 n0 v U'.heap L ∧ FrameEnd U o U' L ({ frames := 0, cells := 0, slots := 0, locals := 0 } : Room).cells ({ frames := 0, cells := 0, slots := 0, locals := 0 } : Room).slots) := by
  refine MetFree.of_bodySF (Jvm.Free.JP.mathPlain rfl (by decide +kernel)) hisR ?_
  intro p e s m args below meth c s₁ Bd hml0 hP hK
  obtain ⟨rfl, hZ, hh⟩ := hP
  have hx := Bd.exec
  have hby := Bd.bytes
  have hml : c.maxLocals = 6 := hml0
  have hown : s.vm.findClass "java/lang/Math" = some m.cls := findClass_of_methodNamed Bd.named
  have hnm := (name_of_methodNamed Bd.named Bd.method).1
  have X0 : Stand p l e ({ frames := 0, cells := 0, slots := 0, locals := 0 } : Room) s m #[(.long q1), (.long q2)] below meth c s₁ [] 0 0 := Stand.of_body Bd
  have e0 : s₁.heap = h0 := by rw [← hh, Bd.state]; rfl
  have N0 := Fr.nil n0
  suffices G0 : ∀ K : State → Prop, (∀ (n : State) (v : Option Value) (L : List Loc), n.status = .running → Ended n below (.returned v) → Q2 Z q1 q2 h0 n0 v n.heap L → FrameEnd s (.returned v) n L ({ frames := 0, cells := 0, slots := 0, locals := 0 } : Room).cells ({ frames := 0, cells := 0, slots := 0, locals := 0 } : Room).slots → K n) → own_Go p e below K (s₁.setTop (mkF m 0 #[.val (.long q1), .second, .val (.long q2), .second, .unset, .unset] [])) by
    obtain ⟨t, st, o, a, b, v, L, e1, q, fe⟩ := G0 (fun n => ∃ o, n.status = .running ∧ Ended n below o ∧ ∃ v L, o = .returned v ∧ Q2 Z q1 q2 h0 n0 v n.heap L ∧ FrameEnd s o n L ({ frames := 0, cells := 0, slots := 0, locals := 0 } : Room).cells ({ frames := 0, cells := 0, slots := 0, locals := 0 } : Room).slots) (fun n v L a b q f => ⟨_, a, b, v, L, rfl, q, f⟩)
    exact ⟨t, o, castTop (ef_2 m q1 q2) st, a, b, v, L, e1, q, fe⟩
  intro K fin
  show own_Go p e below K (s₁.setTop (mkF m 0 #[.val (.long q1), .second, .val (.long q2), .second, .unset, .unset] []))
  refine own_st (fun t k => XS.lloadN X0.here hx rfl (hb hby d2_0) rfl k) ?_
  show own_Go p e below K (s₁.setTop (mkF m 1 #[.val (.long q1), .second, .val (.long q2), .second, .unset, .unset] [(.long q1)]))
  refine own_st (fun t k => XS.lloadN X0.here hx rfl (hb hby d2_1) rfl k) ?_
  show own_Go p e below K (s₁.setTop (mkF m 2 #[.val (.long q1), .second, .val (.long q2), .second, .unset, .unset] [(.long q2), (.long q1)]))
  refine own_st (fun t k => XS.ldiv X0.here hx rfl (hb hby d2_2) rfl (by rw [hy]; decide) k) ?_
  show own_Go p e below K (s₁.setTop (mkF m 3 #[.val (.long q1), .second, .val (.long q2), .second, .unset, .unset] [(.long (q1 / q2))]))
  refine own_st (fun t k => XS.lstore X0.here hx rfl (hb hby d2_3) rfl (l' := #[.val (.long q1), .second, .val (.long q2), .second, .val (.long (q1 / q2)), .second]) rfl k) ?_
  show own_Go p e below K (s₁.setTop (mkF m 5 #[.val (.long q1), .second, .val (.long q2), .second, .val (.long (q1 / q2)), .second] []))
  refine own_st (fun t k => XS.lloadN X0.here hx rfl (hb hby d2_5) rfl k) ?_
  show own_Go p e below K (s₁.setTop (mkF m 6 #[.val (.long q1), .second, .val (.long q2), .second, .val (.long (q1 / q2)), .second] [(.long q1)]))
  refine own_st (fun t k => XS.lloadN X0.here hx rfl (hb hby d2_6) rfl k) ?_
  show own_Go p e below K (s₁.setTop (mkF m 7 #[.val (.long q1), .second, .val (.long q2), .second, .val (.long (q1 / q2)), .second] [(.long q2), (.long q1)]))
  refine own_st (fun t k => XS.lxor X0.here hx rfl (hb hby d2_7) rfl k) ?_
  show own_Go p e below K (s₁.setTop (mkF m 8 #[.val (.long q1), .second, .val (.long q2), .second, .val (.long (q1 / q2)), .second] [(.long (q1 ^^^ q2))]))
  refine own_st (fun t k => XS.lconst X0.here hx rfl (hb hby d2_8) k) ?_
  show own_Go p e below K (s₁.setTop (mkF m 9 #[.val (.long q1), .second, .val (.long q2), .second, .val (.long (q1 / q2)), .second] [(.long (0 : Int64)), (.long (q1 ^^^ q2))]))
  refine own_st (fun t k => XS.lcmp X0.here hx rfl (hb hby d2_9) rfl k) ?_
  show own_Go p e below K (s₁.setTop (mkF m 10 #[.val (.long q1), .second, .val (.long q2), .second, .val (.long (q1 / q2)), .second] [(.int (lcmpW (q1 ^^^ q2) (0 : Int64)))]))
  by_cases hc10 : (q1 ^^^ q2) < (0 : Int64)
  · refine own_st (fun t k => XS.ifNo X0.here hx rfl (hb hby d2_10) rfl ((if0 _ _).trans (tlt ((lw_lt (q1 ^^^ q2) (0 : Int64)).mpr hc10)).2.1) k) ?_
    show own_Go p e below K (s₁.setTop (mkF m 13 #[.val (.long q1), .second, .val (.long q2), .second, .val (.long (q1 / q2)), .second] []))
    refine own_st (fun t k => XS.lload X0.here hx rfl (hb hby d2_13) rfl k) ?_
    show own_Go p e below K (s₁.setTop (mkF m 15 #[.val (.long q1), .second, .val (.long q2), .second, .val (.long (q1 / q2)), .second] [(.long (q1 / q2))]))
    refine own_st (fun t k => XS.lloadN X0.here hx rfl (hb hby d2_15) rfl k) ?_
    show own_Go p e below K (s₁.setTop (mkF m 16 #[.val (.long q1), .second, .val (.long q2), .second, .val (.long (q1 / q2)), .second] [(.long q2), (.long (q1 / q2))]))
    refine own_st (fun t k => XS.lmul X0.here hx rfl (hb hby d2_16) rfl k) ?_
    show own_Go p e below K (s₁.setTop (mkF m 17 #[.val (.long q1), .second, .val (.long q2), .second, .val (.long (q1 / q2)), .second] [(.long ((q1 / q2) * q2))]))
    refine own_st (fun t k => XS.lloadN X0.here hx rfl (hb hby d2_17) rfl k) ?_
    show own_Go p e below K (s₁.setTop (mkF m 18 #[.val (.long q1), .second, .val (.long q2), .second, .val (.long (q1 / q2)), .second] [(.long q1), (.long ((q1 / q2) * q2))]))
    refine own_st (fun t k => XS.lcmp X0.here hx rfl (hb hby d2_18) rfl k) ?_
    show own_Go p e below K (s₁.setTop (mkF m 19 #[.val (.long q1), .second, .val (.long q2), .second, .val (.long (q1 / q2)), .second] [(.int (lcmpW ((q1 / q2) * q2) q1))]))
    by_cases hc19 : ((q1 / q2) * q2) = q1
    · refine own_st (fun t k => XS.ifYes X0.here hx rfl (pc0 := 19) (pc' := 27) rfl (hb hby d2_19) rfl ((if0 _ _).trans (teq ((lw_eq ((q1 / q2) * q2) q1).mpr hc19)).1) (by decide) (by decide) k) ?_
      show own_Go p e below K (s₁.setTop (mkF m 27 #[.val (.long q1), .second, .val (.long q2), .second, .val (.long (q1 / q2)), .second] []))
      refine own_st (fun t k => XS.lload X0.here hx rfl (hb hby d2_27) rfl k) ?_
      show own_Go p e below K (s₁.setTop (mkF m 29 #[.val (.long q1), .second, .val (.long q2), .second, .val (.long (q1 / q2)), .second] [(.long (q1 / q2))]))
      obtain ⟨fs, hr, hrun, hended, hW, hsame⟩ := X0.leave (v := some (.long (q1 / q2))) (fun h => by rw [Bd.returns] at h; cases h)
      refine ⟨_, X0.lreturnOut hx Bd.returns (hb hby d2_29) hr, fin _ _ _ hrun hended ?_ ⟨⟨_, rfl⟩, hW, hsame.mono (by decide) (by decide)⟩⟩
      show Q2 Z q1 q2 h0 n0 _ s₁.heap _
      rw [e0]
      exact ⟨_, rfl, (own_fdB hy hc10 hc19), N0, rfl⟩
    refine own_st (fun t k => XS.ifNo X0.here hx rfl (hb hby d2_19) rfl ((if0 _ _).trans (feq (fun q => hc19 ((lw_eq ((q1 / q2) * q2) q1).mp q))).1) k) ?_
    show own_Go p e below K (s₁.setTop (mkF m 22 #[.val (.long q1), .second, .val (.long q2), .second, .val (.long (q1 / q2)), .second] []))
    refine own_st (fun t k => XS.lload X0.here hx rfl (hb hby d2_22) rfl k) ?_
    show own_Go p e below K (s₁.setTop (mkF m 24 #[.val (.long q1), .second, .val (.long q2), .second, .val (.long (q1 / q2)), .second] [(.long (q1 / q2))]))
    refine own_st (fun t k => XS.lconst X0.here hx rfl (hb hby d2_24) k) ?_
    show own_Go p e below K (s₁.setTop (mkF m 25 #[.val (.long q1), .second, .val (.long q2), .second, .val (.long (q1 / q2)), .second] [(.long (1 : Int64)), (.long (q1 / q2))]))
    refine own_st (fun t k => XS.lsub X0.here hx rfl (hb hby d2_25) rfl k) ?_
    show own_Go p e below K (s₁.setTop (mkF m 26 #[.val (.long q1), .second, .val (.long q2), .second, .val (.long (q1 / q2)), .second] [(.long ((q1 / q2) - (1 : Int64)))]))
    obtain ⟨fs, hr, hrun, hended, hW, hsame⟩ := X0.leave (v := some (.long ((q1 / q2) - (1 : Int64)))) (fun h => by rw [Bd.returns] at h; cases h)
    refine ⟨_, X0.lreturnOut hx Bd.returns (hb hby d2_26) hr, fin _ _ _ hrun hended ?_ ⟨⟨_, rfl⟩, hW, hsame.mono (by decide) (by decide)⟩⟩
    show Q2 Z q1 q2 h0 n0 _ s₁.heap _
    rw [e0]
    exact ⟨_, rfl, (own_fdC hy hc10 hc19), N0, rfl⟩
  refine own_st (fun t k => XS.ifYes X0.here hx rfl (pc0 := 10) (pc' := 27) rfl (hb hby d2_10) rfl ((if0 _ _).trans (flt (fun q => hc10 ((lw_lt (q1 ^^^ q2) (0 : Int64)).mp q))).2.1) (by decide) (by decide) k) ?_
  show own_Go p e below K (s₁.setTop (mkF m 27 #[.val (.long q1), .second, .val (.long q2), .second, .val (.long (q1 / q2)), .second] []))
  refine own_st (fun t k => XS.lload X0.here hx rfl (hb hby d2_27) rfl k) ?_
  show own_Go p e below K (s₁.setTop (mkF m 29 #[.val (.long q1), .second, .val (.long q2), .second, .val (.long (q1 / q2)), .second] [(.long (q1 / q2))]))
  obtain ⟨fs, hr, hrun, hended, hW, hsame⟩ := X0.leave (v := some (.long (q1 / q2))) (fun h => by rw [Bd.returns] at h; cases h)
  refine ⟨_, X0.lreturnOut hx Bd.returns (hb hby d2_29) hr, fin _ _ _ hrun hended ?_ ⟨⟨_, rfl⟩, hW, hsame.mono (by decide) (by decide)⟩⟩
  show Q2 Z q1 q2 h0 n0 _ s₁.heap _
  rw [e0]
  exact ⟨_, rfl, (own_fdA hy hc10), N0, rfl⟩
theorem d1_0 : decode prog_17_method_2_code 0 = .ok (.lload_n 0, 1) := by decide +kernel
theorem d1_1 : decode prog_17_method_2_code 1 = .ok (.ldc2_w 30, 3) := by decide +kernel
theorem d1_4 : decode prog_17_method_2_code 4 = .ok (.invokestatic 32, 3) := by decide +kernel
theorem d1_7 : decode prog_17_method_2_code 7 = .ok (.lconst 1, 1) := by decide +kernel
theorem d1_8 : decode prog_17_method_2_code 8 = .ok (.ladd, 1) := by decide +kernel
theorem d1_9 : decode prog_17_method_2_code 9 = .ok (.ldc2_w 30, 3) := by decide +kernel
theorem d1_12 : decode prog_17_method_2_code 12 = .ok (.lmul, 1) := by decide +kernel
theorem d1_13 : decode prog_17_method_2_code 13 = .ok (.lreturn, 1) := by decide +kernel
theorem pn_1 : plainName "com/example/expire_then_sweep/expirethensweep/service/UnitLedger" = true := by first | (simp [plainName, overriddenIn]; done) | decide +kernel
theorem pd_1_1 : parseMethodDescriptor "(JJ)J" = some ⟨[.long, .long], some .long⟩ := by decide +kernel
theorem ef_1 (m : MethodId) (x0 : Int64) : entryFrame m #[(.long x0)] 2 = mkF m 0 #[.val (.long x0), .second] [] := by first | (simp [entryFrame, mkF, argsToLocals, Value.category]; done) | rfl
def Q1 (Z : State) (q1 : Int64) (h0 : Heap) (n0 : Nat) (v : Option Value) (h : Heap) (L : List Loc) : Prop := ∃ (r : Int64), v = some (.long r) ∧ (r.toInt = (q1.toInt / 1000 + 1) * 1000) ∧ Fr n0 L ∧ h = h0
set_option maxRecDepth 65536 in
set_option maxHeartbeats 40000000 in
theorem rm1 (l : Launch) (Z : State) (a0 : Array Value) (hw : ∀ d ∈ tables_1, d.before a0 Z = true) (ws : List Jvm.Cond) (q1 : Int64) (h0 : Heap) (n0 : Nat) (Z0 : n0 ≤ h0.size) (hq : ¬ (9223372036854774807 : Int64) < q1) :
    MetFree l (⟨"com/example/expire_then_sweep/expirethensweep/service/UnitLedger", "nextSecondMillis", "(J)J"⟩ : MethodName) (head1 (Jvm.Cond.code (⟨"com/example/expire_then_sweep/expirethensweep/service/UnitLedger", "nextSecondMillis", "(J)J"⟩ : MethodName) prog_17_method_2_code 2 (some .long) :: ws) ({ frames := 1, cells := 0, slots := 0, locals := 17 } : Room)) (fun a U => a = #[(.long q1)] ∧ Z.Warmed39 U.vm ∧ U.heap = h0) (fun _ _ _ _ _ => True) (fun _ U o U' => ∃ v L, o = .returned v ∧ Q1 Z q1 h0 n0 v U'.heap L ∧ FrameEnd U o U' L ({ frames := 1, cells := 0, slots := 0, locals := 17 } : Room).cells ({ frames := 1, cells := 0, slots := 0, locals := 17 } : Room).slots) := by
  refine MetFree.of_bodySF (plainFor_of_name pn_1) hisR ?_
  intro p e s m args below meth c s₁ Bd hml0 hP hK
  obtain ⟨rfl, hZ, hh⟩ := hP
  have hx := Bd.exec
  have hby := Bd.bytes
  have hml : c.maxLocals = 2 := hml0
  have hown : s.vm.findClass "com/example/expire_then_sweep/expirethensweep/service/UnitLedger" = some m.cls := findClass_of_methodNamed Bd.named
  have hnm := (name_of_methodNamed Bd.named Bd.method).1
  have X0 : Stand p l e ({ frames := 1, cells := 0, slots := 0, locals := 17 } : Room) s m #[(.long q1)] below meth c s₁ [] 0 0 := Stand.of_body Bd
  have e0 : s₁.heap = h0 := by rw [← hh, Bd.state]; rfl
  have N0 := Fr.nil n0
  suffices G0 : ∀ K : State → Prop, (∀ (n : State) (v : Option Value) (L : List Loc), n.status = .running → Ended n below (.returned v) → Q1 Z q1 h0 n0 v n.heap L → FrameEnd s (.returned v) n L ({ frames := 1, cells := 0, slots := 0, locals := 17 } : Room).cells ({ frames := 1, cells := 0, slots := 0, locals := 17 } : Room).slots → K n) → own_Go p e below K (s₁.setTop (mkF m 0 #[.val (.long q1), .second] [])) by
    obtain ⟨t, st, o, a, b, v, L, e1, q, fe⟩ := G0 (fun n => ∃ o, n.status = .running ∧ Ended n below o ∧ ∃ v L, o = .returned v ∧ Q1 Z q1 h0 n0 v n.heap L ∧ FrameEnd s o n L ({ frames := 1, cells := 0, slots := 0, locals := 17 } : Room).cells ({ frames := 1, cells := 0, slots := 0, locals := 17 } : Room).slots) (fun n v L a b q f => ⟨_, a, b, v, L, rfl, q, f⟩)
    exact ⟨t, o, castTop (ef_1 m q1) st, a, b, v, L, e1, q, fe⟩
  intro K fin
  show own_Go p e below K (s₁.setTop (mkF m 0 #[.val (.long q1), .second] []))
  refine own_st (fun t k => XS.lloadN X0.here hx rfl (hb hby d1_0) rfl k) ?_
  show own_Go p e below K (s₁.setTop (mkF m 1 #[.val (.long q1), .second] [(.long q1)]))
  refine own_st (X0.ldc2Long hx hown (mvT hZ (hw _ (List.mem_of_getElem? (i := 5) rfl))) (g := (mkF m 1 #[.val (.long q1), .second] [(.long q1)])) rfl (hb hby d1_1)) ?_
  show own_Go p e below K (s₁.setTop (mkF m 4 #[.val (.long q1), .second] [(.long (1000 : Int64)), (.long q1)]))
  obtain ⟨_, _, ⟨T1, L1, k1, n1⟩, -, X1, ⟨Lc1, hQ1, l1, y1, z1⟩, st1⟩ := Jvm.LawKit.callS X0 hx (y := (⟨"java/lang/Math", "floorDiv", "(JJ)J"⟩ : MethodName)) hown (mvT hZ (hw _ (List.mem_of_getElem? (i := 6) rfl))) (mvT hZ (hw _ (List.mem_of_getElem? (i := 7) rfl))) (mvT hZ (hw _ (List.mem_of_getElem? (i := 8) rfl))) (mvT hZ (hw _ (List.mem_of_getElem? (i := 9) rfl))) (by decide) (backOf (W := 0) (rm2 l Z a0 hw [] q1 (1000 : Int64) h0 n0 Z0 rfl) hZ (hw _ (List.mem_of_getElem? (i := 9) rfl)) (hw _ (List.mem_of_getElem? (i := 8) rfl)) (by decide) (by decide)) (g := (mkF m 4 #[.val (.long q1), .second] [(.long (1000 : Int64)), (.long q1)])) rfl (by rw [hml]; rfl) (argsL := [(.long q1), (.long (1000 : Int64))]) (rest := []) (lenOf pd_1_1 rfl) rfl (by show 2 * 0 + _ ≤ _; exact Nat.le_of_eq rfl) (hb hby d1_4) (fun _ _ => ⟨rfl, e0, (by decide : 0 + 0 ≤ _), (by decide : 0 + 0 ≤ _)⟩)
  dsimp only [Pt.U, Pt.locs, Pt.cells, Pt.slots] at X1 l1 y1 z1 st1 hQ1
  subst l1 y1 z1
  obtain ⟨r1, rfl, hr1, N1q, e1⟩ := hQ1
  have N1 := Fr.app N0 N1q
  refine own_st st1 ?_
  show own_Go p e below K (T1.setTop (mkF m 7 #[.val (.long q1), .second] [(.long r1)]))
  refine own_st (fun t k => XS.lconst X1.here hx rfl (hb hby d1_7) k) ?_
  show own_Go p e below K (T1.setTop (mkF m 8 #[.val (.long q1), .second] [(.long (1 : Int64)), (.long r1)]))
  refine own_st (fun t k => XS.ladd X1.here hx rfl (hb hby d1_8) rfl k) ?_
  show own_Go p e below K (T1.setTop (mkF m 9 #[.val (.long q1), .second] [(.long (r1 + (1 : Int64)))]))
  refine own_st (X1.ldc2Long hx hown (mvT hZ (hw _ (List.mem_of_getElem? (i := 5) rfl))) (g := (mkF m 9 #[.val (.long q1), .second] [(.long (r1 + (1 : Int64)))])) rfl (hb hby d1_9)) ?_
  show own_Go p e below K (T1.setTop (mkF m 12 #[.val (.long q1), .second] [(.long (1000 : Int64)), (.long (r1 + (1 : Int64)))]))
  refine own_st (fun t k => XS.lmul X1.here hx rfl (hb hby d1_12) rfl k) ?_
  show own_Go p e below K (T1.setTop (mkF m 13 #[.val (.long q1), .second] [(.long ((r1 + (1 : Int64)) * (1000 : Int64)))]))
  obtain ⟨fs, hr, hrun, hended, hW, hsame⟩ := X1.leave (v := some (.long ((r1 + (1 : Int64)) * (1000 : Int64)))) (fun h => by rw [Bd.returns] at h; cases h)
  refine ⟨_, X1.lreturnOut hx Bd.returns (hb hby d1_13) hr, fin _ _ _ hrun hended ?_ ⟨⟨_, rfl⟩, hW, hsame.mono (by decide) (by decide)⟩⟩
  show Q1 Z q1 h0 n0 _ T1.heap _
  rw [e1]
  exact ⟨_, rfl, (own_ns hq hr1), N1, rfl⟩
theorem pn_0 : plainName "com/example/expire_then_sweep/expirethensweep/service/UnitLedgerNextSecondMillisPinLaw" = true := by first | (simp [plainName, overriddenIn]; done) | decide +kernel
theorem pd_0_0 : parseMethodDescriptor "(J)J" = some ⟨[.long], some .long⟩ := by decide +kernel
theorem ef_0 (m : MethodId) (x0 : Int64) : entryFrame m #[(.long x0)] maxLocals = mkF m 0 #[.val (.long x0), .second, .unset, .unset] [] := by first | (simp [entryFrame, mkF, argsToLocals, Value.category, maxLocals]; done) | rfl
def Q0 (Z : State) (q1 : Int64) (h0 : Heap) (n0 : Nat) (v : Option Value) (h : Heap) (L : List Loc) : Prop := v = some (.int 1) ∧ Fr n0 L
set_option maxRecDepth 65536 in
set_option maxHeartbeats 40000000 in
theorem rm0 (l : Launch) (Z : State) (a0 : Array Value) (hw : ∀ d ∈ tables_1, d.before a0 Z = true) (ws : List Jvm.Cond) (q1 : Int64) (h0 : Heap) (n0 : Nat) (Z0 : n0 ≤ h0.size)  :
    MetFree l x (head1 (Jvm.Cond.code x code maxLocals ret :: ws) room_1) (fun a U => a = #[(.long q1)] ∧ Z.Warmed39 U.vm ∧ U.heap = h0) (fun _ _ _ _ _ => True) (fun _ U o U' => ∃ v L, o = .returned v ∧ Q0 Z q1 h0 n0 v U'.heap L ∧ FrameEnd U o U' L 0 0) := by
  refine MetFree.of_bodySF (plainFor_of_name pn_0) hisR ?_
  intro p e s m args below meth c s₁ Bd hml0 hP hK
  obtain ⟨rfl, hZ, hh⟩ := hP
  have hx := Bd.exec
  have hby := Bd.bytes
  have hml : c.maxLocals = 4 := hml0
  have hown : s.vm.findClass "com/example/expire_then_sweep/expirethensweep/service/UnitLedgerNextSecondMillisPinLaw" = some m.cls := findClass_of_methodNamed Bd.named
  have hnm := (name_of_methodNamed Bd.named Bd.method).1
  have X0 : Stand p l e room_1 s m #[(.long q1)] below meth c s₁ [] 0 0 := Stand.of_body Bd
  have e0 : s₁.heap = h0 := by rw [← hh, Bd.state]; rfl
  have N0 := Fr.nil n0
  suffices G0 : ∀ K : State → Prop, (∀ (n : State) (v : Option Value) (L : List Loc), n.status = .running → Ended n below (.returned v) → Q0 Z q1 h0 n0 v n.heap L → FrameEnd s (.returned v) n L 0 0 → K n) → own_Go p e below K (s₁.setTop (mkF m 0 #[.val (.long q1), .second, .unset, .unset] [])) by
    obtain ⟨t, st, o, a, b, v, L, e1, q, fe⟩ := G0 (fun n => ∃ o, n.status = .running ∧ Ended n below o ∧ ∃ v L, o = .returned v ∧ Q0 Z q1 h0 n0 v n.heap L ∧ FrameEnd s o n L 0 0) (fun n v L a b q f => ⟨_, a, b, v, L, rfl, q, f⟩)
    exact ⟨t, o, castTop (ef_0 m q1) st, a, b, v, L, e1, q, fe⟩
  intro K fin
  show own_Go p e below K (s₁.setTop (mkF m 0 #[.val (.long q1), .second, .unset, .unset] []))
  refine own_st (fun t k => XS.lloadN X0.here hx rfl (hb hby at_0) rfl k) ?_
  show own_Go p e below K (s₁.setTop (mkF m 1 #[.val (.long q1), .second, .unset, .unset] [(.long q1)]))
  refine own_st (X0.ldc2Long hx hown (mvT hZ (hw _ (List.mem_of_getElem? (i := 0) rfl))) (g := (mkF m 1 #[.val (.long q1), .second, .unset, .unset] [(.long q1)])) rfl (hb hby at_1)) ?_
  show own_Go p e below K (s₁.setTop (mkF m 4 #[.val (.long q1), .second, .unset, .unset] [(.long (9223372036854774807 : Int64)), (.long q1)]))
  refine own_st (fun t k => XS.lcmp X0.here hx rfl (hb hby at_4) rfl k) ?_
  show own_Go p e below K (s₁.setTop (mkF m 5 #[.val (.long q1), .second, .unset, .unset] [(.int (lcmpW q1 (9223372036854774807 : Int64)))]))
  by_cases hc5 : (9223372036854774807 : Int64) < q1
  · refine own_st (fun t k => XS.ifNo X0.here hx rfl (hb hby at_5) rfl ((if0 _ _).trans (tlt ((lw_gt q1 (9223372036854774807 : Int64)).mpr hc5)).2.2.2) k) ?_
    show own_Go p e below K (s₁.setTop (mkF m 8 #[.val (.long q1), .second, .unset, .unset] []))
    refine own_st (fun t k => XS.iconst X0.here hx rfl (hb hby at_8) k) ?_
    show own_Go p e below K (s₁.setTop (mkF m 9 #[.val (.long q1), .second, .unset, .unset] [(.int (1 : Int32))]))
    obtain ⟨fs, hr, hrun, hended, hW, hsame⟩ := X0.leave (v := some (.int (nar .boolean (1 : Int32)))) (fun h => by rw [Bd.returns] at h; cases h)
    refine ⟨_, retN X0 hx (t := .boolean) Bd.returns (by simp) (hb hby at_9) hr, fin _ _ _ hrun hended ?_ ⟨⟨_, rfl⟩, hW, hsame.mono (by decide) (by decide)⟩⟩
    show Q0 Z q1 h0 n0 _ s₁.heap _
    rw [e0]
    exact ⟨rfl, N0⟩
  refine own_st (fun t k => XS.ifYes X0.here hx rfl (pc0 := 5) (pc' := 10) rfl (hb hby at_5) rfl ((if0 _ _).trans (flt (fun q => hc5 ((lw_gt q1 (9223372036854774807 : Int64)).mp q))).2.2.2) (by decide) (by decide) k) ?_
  show own_Go p e below K (s₁.setTop (mkF m 10 #[.val (.long q1), .second, .unset, .unset] []))
  refine own_st (fun t k => XS.lloadN X0.here hx rfl (hb hby at_10) rfl k) ?_
  show own_Go p e below K (s₁.setTop (mkF m 11 #[.val (.long q1), .second, .unset, .unset] [(.long q1)]))
  obtain ⟨_, _, ⟨T1, L1, k1, n1⟩, -, X1, ⟨Lc1, hQ1, l1, y1, z1⟩, st1⟩ := Jvm.LawKit.callS X0 hx (y := (⟨"com/example/expire_then_sweep/expirethensweep/service/UnitLedger", "nextSecondMillis", "(J)J"⟩ : MethodName)) hown (mvT hZ (hw _ (List.mem_of_getElem? (i := 1) rfl))) (mvT hZ (hw _ (List.mem_of_getElem? (i := 2) rfl))) (mvT hZ (hw _ (List.mem_of_getElem? (i := 3) rfl))) (mvT hZ (hw _ (List.mem_of_getElem? (i := 4) rfl))) (by decide) (backOf (W := 0) (rm1 l Z a0 hw [] q1 h0 n0 Z0 hc5) hZ (hw _ (List.mem_of_getElem? (i := 4) rfl)) (hw _ (List.mem_of_getElem? (i := 3) rfl)) (by decide) (by decide)) (g := (mkF m 11 #[.val (.long q1), .second, .unset, .unset] [(.long q1)])) rfl (by rw [hml]; rfl) (argsL := [(.long q1)]) (rest := []) (lenOf pd_0_0 rfl) rfl (by show 2 * 0 + _ ≤ _; exact Nat.le_of_eq rfl) (hb hby at_11) (fun _ _ => ⟨rfl, e0, (by decide : 0 + 0 ≤ _), (by decide : 0 + 0 ≤ _)⟩)
  dsimp only [Pt.U, Pt.locs, Pt.cells, Pt.slots] at X1 l1 y1 z1 st1 hQ1
  subst l1 y1 z1
  obtain ⟨r1, rfl, hr1, N1q, e1⟩ := hQ1
  have N1 := Fr.app N0 N1q
  refine own_st st1 ?_
  show own_Go p e below K (T1.setTop (mkF m 14 #[.val (.long q1), .second, .unset, .unset] [(.long r1)]))
  refine own_st (fun t k => XS.lstoreN X1.here hx rfl (hb hby at_14) rfl (l' := #[.val (.long q1), .second, .val (.long r1), .second]) rfl k) ?_
  show own_Go p e below K (T1.setTop (mkF m 15 #[.val (.long q1), .second, .val (.long r1), .second] []))
  refine own_st (fun t k => XS.lloadN X1.here hx rfl (hb hby at_15) rfl k) ?_
  show own_Go p e below K (T1.setTop (mkF m 16 #[.val (.long q1), .second, .val (.long r1), .second] [(.long r1)]))
  refine own_st (X1.ldc2Long hx hown (mvT hZ (hw _ (List.mem_of_getElem? (i := 10) rfl))) (g := (mkF m 16 #[.val (.long q1), .second, .val (.long r1), .second] [(.long r1)])) rfl (hb hby at_16)) ?_
  show own_Go p e below K (T1.setTop (mkF m 19 #[.val (.long q1), .second, .val (.long r1), .second] [(.long (1000 : Int64)), (.long r1)]))
  refine own_st (fun t k => own_lrem X1.here hx rfl (hb hby at_19) rfl (by decide) k) ?_
  show own_Go p e below K (T1.setTop (mkF m 20 #[.val (.long q1), .second, .val (.long r1), .second] [(.long (r1 % (1000 : Int64)))]))
  refine own_st (fun t k => XS.lconst X1.here hx rfl (hb hby at_20) k) ?_
  show own_Go p e below K (T1.setTop (mkF m 21 #[.val (.long q1), .second, .val (.long r1), .second] [(.long (0 : Int64)), (.long (r1 % (1000 : Int64)))]))
  refine own_st (fun t k => XS.lcmp X1.here hx rfl (hb hby at_21) rfl k) ?_
  show own_Go p e below K (T1.setTop (mkF m 22 #[.val (.long q1), .second, .val (.long r1), .second] [(.int (lcmpW (r1 % (1000 : Int64)) (0 : Int64)))]))
  refine own_st (fun t k => XS.ifNo X1.here hx rfl (hb hby at_22) rfl ((if0 _ _).trans (teq ((lw_eq (r1 % (1000 : Int64)) (0 : Int64)).mpr (own_m0 hr1 : (r1 % (1000 : Int64)) = (0 : Int64)))).2) k) ?_
  show own_Go p e below K (T1.setTop (mkF m 25 #[.val (.long q1), .second, .val (.long r1), .second] []))
  refine own_st (fun t k => XS.lloadN X1.here hx rfl (hb hby at_25) rfl k) ?_
  show own_Go p e below K (T1.setTop (mkF m 26 #[.val (.long q1), .second, .val (.long r1), .second] [(.long q1)]))
  refine own_st (fun t k => XS.lloadN X1.here hx rfl (hb hby at_26) rfl k) ?_
  show own_Go p e below K (T1.setTop (mkF m 27 #[.val (.long q1), .second, .val (.long r1), .second] [(.long r1), (.long q1)]))
  refine own_st (fun t k => XS.lcmp X1.here hx rfl (hb hby at_27) rfl k) ?_
  show own_Go p e below K (T1.setTop (mkF m 28 #[.val (.long q1), .second, .val (.long r1), .second] [(.int (lcmpW q1 r1))]))
  refine own_st (fun t k => XS.ifNo X1.here hx rfl (hb hby at_28) rfl ((if0 _ _).trans (tlt ((lw_lt q1 r1).mpr (own_m1 hr1 : q1 < r1))).2.1) k) ?_
  show own_Go p e below K (T1.setTop (mkF m 31 #[.val (.long q1), .second, .val (.long r1), .second] []))
  refine own_st (fun t k => XS.lloadN X1.here hx rfl (hb hby at_31) rfl k) ?_
  show own_Go p e below K (T1.setTop (mkF m 32 #[.val (.long q1), .second, .val (.long r1), .second] [(.long r1)]))
  refine own_st (fun t k => XS.lloadN X1.here hx rfl (hb hby at_32) rfl k) ?_
  show own_Go p e below K (T1.setTop (mkF m 33 #[.val (.long q1), .second, .val (.long r1), .second] [(.long q1), (.long r1)]))
  refine own_st (X1.ldc2Long hx hown (mvT hZ (hw _ (List.mem_of_getElem? (i := 10) rfl))) (g := (mkF m 33 #[.val (.long q1), .second, .val (.long r1), .second] [(.long q1), (.long r1)])) rfl (hb hby at_33)) ?_
  show own_Go p e below K (T1.setTop (mkF m 36 #[.val (.long q1), .second, .val (.long r1), .second] [(.long (1000 : Int64)), (.long q1), (.long r1)]))
  refine own_st (fun t k => XS.ladd X1.here hx rfl (hb hby at_36) rfl k) ?_
  show own_Go p e below K (T1.setTop (mkF m 37 #[.val (.long q1), .second, .val (.long r1), .second] [(.long (q1 + (1000 : Int64))), (.long r1)]))
  refine own_st (fun t k => XS.lcmp X1.here hx rfl (hb hby at_37) rfl k) ?_
  show own_Go p e below K (T1.setTop (mkF m 38 #[.val (.long q1), .second, .val (.long r1), .second] [(.int (lcmpW r1 (q1 + (1000 : Int64))))]))
  refine own_st (fun t k => XS.ifNo X1.here hx rfl (hb hby at_38) rfl ((if0 _ _).trans (flt (fun q => (own_m2 hc5 hr1 : ¬ ((q1 + (1000 : Int64)) < r1)) ((lw_gt r1 (q1 + (1000 : Int64))).mp q))).2.2.1) k) ?_
  show own_Go p e below K (T1.setTop (mkF m 41 #[.val (.long q1), .second, .val (.long r1), .second] []))
  refine own_st (fun t k => XS.iconst X1.here hx rfl (hb hby at_41) k) ?_
  show own_Go p e below K (T1.setTop (mkF m 42 #[.val (.long q1), .second, .val (.long r1), .second] [(.int (1 : Int32))]))
  refine own_st (fun t k => XS.goto X1.here hx rfl (pc0 := 42) (pc' := 46) rfl (hb hby at_42) (by decide) (by decide) k) ?_
  show own_Go p e below K (T1.setTop (mkF m 46 #[.val (.long q1), .second, .val (.long r1), .second] [(.int (1 : Int32))]))
  obtain ⟨fs, hr, hrun, hended, hW, hsame⟩ := X1.leave (v := some (.int (nar .boolean (1 : Int32)))) (fun h => by rw [Bd.returns] at h; cases h)
  refine ⟨_, retN X1 hx (t := .boolean) Bd.returns (by simp) (hb hby at_46) hr, fin _ _ _ hrun hended ?_ ⟨⟨_, rfl⟩, hW, hsame.mono (by decide) (by decide)⟩⟩
  show Q0 Z q1 h0 n0 _ T1.heap _
  rw [e1]
  exact ⟨rfl, N1⟩
set_option maxRecDepth 65536 in
set_option maxHeartbeats 40000000 in
theorem comes_1 {Post : Tables → Env → Array Value → State → Outcome → State → Prop} (hpost : ∀ tb e args s v u, (limb_1_1.after args s (.returned v) u = true ∧ limb_1_2.after args s (.returned v) u = true ∧ True) → FrameEnd s (.returned v) u (Jvm.fieldLocs frame_1_writes args s ++ Jvm.arrayLocs frame_1_arrays args s ++ Jvm.staticLocs frame_1_statics s) 0 0 → Post tb e args s (.returned v) u) :
    ArmFor flags0 classFile x code maxLocals ret World_1 tables_1 room_1 Calls_1 rest_1 Pre_1 Post := by
  intro l hfl _ _ p e ha hc hk s m args below hf hA hF happ hP
  obtain ⟨hcalls, hrest, hpre⟩ := hP
  obtain ⟨-, -, -, hnamed, -, -, -, hat⟩ := (Spec.applies_iff hf).mp happ
  obtain ⟨hg, hn⟩ := and_e (Cond.before_iff.mp (show (Jvm.Cond.and given_1 narrow_1).before args s = true from hpre))
  obtain ⟨g1, g2⟩ := and_e hg
  obtain ⟨w0, rfl⟩ : ∃ w0 : Value, args = #[w0] := by
    have hs : args.size = 1 := by simpa [Cond.value, given_1] using g1
    obtain ⟨L⟩ := args
    match L, hs with
    | [w0], _ => exact ⟨w0, rfl⟩
  have hw := fun d (hd : d ∈ tables_1) => atoms_spec (ws := Jvm.Cond.code x code maxLocals ret :: tables_1) hat d (List.mem_cons_of_mem _ hd)
  have hfit : Fit s := fun {y c} hc i hi => by
    obtain ⟨ha, rfl⟩ := Array.getElem?_eq_some_iff.mp hc
    have q := List.all_eq_true.mp ((Array.all_eq_true_iff_forall_mem.mp hF) _ (Array.getElem_mem ha)) i (List.mem_range.mpr hi)
    simpa [Array.getElem?_eq_getElem hi] using q
  obtain ⟨i0, ei0⟩ := isL_v g2
  obtain rfl : w0 = (.long i0) := Option.some.inj ei0
  obtain ⟨n, o, h1, h2, h3, _, L, rfl, ⟨rfl, N⟩, hq⟩ := rm0 l s _ hw tables_1 i0 s.heap s.heap.size (Nat.le_refl _) p e ha hc hk s m _ below hf ((Spec.applies_iff_loose hf).mp happ).1 ⟨rfl, State.Warmed39.refl s, rfl⟩ trivial
  refine ⟨n, _, h1, h2, h3, hpost _ _ _ _ _ _ ⟨Cond.after_iff.mpr rfl, Cond.after_iff.mpr (eq_i res_at (Term.int_eval (1)) rfl), trivial⟩ ⟨hq.1, hq.2.1, (hq.2.2.sift fun y hy => Or.inr (N y hy)).mono (by decide) (by decide)⟩⟩
theorem main_1_1 : Claimed_1_1 := comes_1 fun _ _ _ _ _ _ h hF => ⟨h.1, hF⟩
theorem main_1_2 : Claimed_1_2 := comes_1 fun _ _ _ _ _ _ h hF => ⟨h.2.1, hF⟩
end Jvm.Pilot.@@N@@
namespace Jvm.Pilot.@@N@@
open Jvm Jvm.ClassFile Sem Op Lib Jvm.Free Jvm.Stand Jvm.Pilot.@@N@@.Jvm.D
/-! MADE BY PROGRAM (witnessworld.py) out of the Statement's table words and the real class files: 10 classes; the members and pool entries that the words name. The judged class is class 1, her method 1. -/
namespace start1
open Jvm.ClassFile
def u (s : String) : CpInfo := .utf8 (stringToUtf16 s)
/-- a pool by its gaps: so many unusable entries, then the entry; so many at the end -/
def gap : Nat → List CpInfo → List CpInfo
  | 0, r => r
  | n + 1, r => .unusable :: gap n r
def poolList (es : List (Nat × CpInfo)) (last : Nat) : List CpInfo := es.foldr (fun e r => gap e.1 (e.2 :: r)) (gap last [])
def pool (es : List (Nat × CpInfo)) (last : Nat) : Array CpInfo := ⟨poolList es last⟩
def fileOf (pool : Array CpInfo) (this : Nat) (attrs : Array Attribute := #[]) (ms : Array MethodInfo := #[]) (fl : Nat := 33) (sup : Nat := 0) (ifs : Array Nat := #[]) (fds : Array FieldInfo := #[]) : ClassFile where
  minorVersion := 0
  majorVersion := 65
  constantPool := pool
  accessFlags := fl
  thisClass := this
  superClass := sup
  interfaces := ifs
  fields := fds
  methods := ms
  attributes := attrs
def plain (name : String) (sup : Option ClassId) : Class where
  name := name
  kind := .ordinary
  loader := none
  accessFlags := 33
  super := sup
  interfaces := #[]
  cf := none
  fields := #[]
  methods := #[]
  instanceTypes := #[]
  staticTypes := #[]
  resolved := #[]
  callSites := []
  init := .initialized
  statics := none
  mirror := none

def pool0 : Array CpInfo := pool [(5, u "<init>"), (0, u "()V"), (1, .class_ 10), (1, u "java/lang/Object")] 113

def k0m0 : Method := { name := "<init>", desc := "()V", sig := { parameters := [], returnType := none }, accessFlags := 1, code := none }
/-- java/lang/Object -/
def k0 : Class := { plain "java/lang/Object" none with
  accessFlags := 33
  interfaces := #[]
  cf := some (fileOf pool0 8 #[] #[{ accessFlags := 1, nameIndex := 5, descriptorIndex := 6, attributes := #[] }] 33 0 #[] #[])
  fields := #[]
  methods := #[k0m0]
  instanceTypes := #[]
  staticTypes := #[]
  resolved := Array.replicate 124 none
  statics := none }

def pool1 : Array CpInfo := pool [(2, .class_ 4), (1, u "java/lang/Object"), (0, u "<init>"), (0, u "()V"), (2, .long 9223372036854774807), (1, .methodref 12 13), (0, .class_ 14), (0, .nameAndType 15 16), (0, u "com/example/expire_then_sweep/expirethensweep/service/UnitLedger"), (0, u "nextSecondMillis"), (0, u "(J)J"), (0, .long 1000), (1, .class_ 20), (0, u "com/example/expire_then_sweep/expirethensweep/service/UnitLedgerNextSecondMillisPinLaw"), (2, u "law"), (0, u "(J)Z")] 3

def k1m0 : Method := { name := "<init>", desc := "()V", sig := { parameters := [], returnType := none }, accessFlags := 1, code := none }
def k1c1 : Code := { maxStack := 6, maxLocals := 4, code := code, exceptionTable := #[], attributes := #[] }
def k1m1 : Method := { name := "law", desc := "(J)Z", sig := { parameters := [.long], returnType := some .boolean }, accessFlags := 9, code := some k1c1 }
/-- com/example/expire_then_sweep/expirethensweep/service/UnitLedgerNextSecondMillisPinLaw -/
def k1 : Class := { plain "com/example/expire_then_sweep/expirethensweep/service/UnitLedgerNextSecondMillisPinLaw" (some 0) with
  accessFlags := 49
  interfaces := #[]
  cf := some (fileOf pool1 19 #[] #[{ accessFlags := 1, nameIndex := 5, descriptorIndex := 6, attributes := #[] }, { accessFlags := 9, nameIndex := 23, descriptorIndex := 24, attributes := #[] }] 49 2 #[] #[])
  fields := #[]
  methods := #[k1m0, k1m1]
  instanceTypes := #[]
  staticTypes := #[]
  resolved := Array.replicate 28 none
  statics := none }

def pool2 : Array CpInfo := pool [(2, .class_ 4), (1, u "java/lang/Object"), (7, .class_ 14), (1, u "com/example/expire_then_sweep/expirethensweep/service/UnitLedger"), (0, u "second"), (0, u "J"), (1, u "clock"), (10, u "Ljava/time/Clock;"), (0, .long 1000), (1, .methodref 33 34), (0, .class_ 35), (0, .nameAndType 36 37), (0, u "java/lang/Math"), (0, u "floorDiv"), (0, u "(JJ)J"), (5, u "usersInSecond"), (2, u "userUnits"), (12, u "sweepInSecond"), (6, u "sweepUnits"), (4, u "MILLIS_PER_SECOND"), (4, u "nextSecondMillis"), (0, u "(J)J")] 6

def k2c0 : Code := { maxStack := 4, maxLocals := 2, code := prog_17_method_2_code, exceptionTable := #[], attributes := #[] }
def k2m0 : Method := { name := "nextSecondMillis", desc := "(J)J", sig := { parameters := [.long], returnType := some .long }, accessFlags := 8, code := some k2c0 }
/-- com/example/expire_then_sweep/expirethensweep/service/UnitLedger -/
def k2 : Class := { plain "com/example/expire_then_sweep/expirethensweep/service/UnitLedger" (some 0) with
  accessFlags := 48
  interfaces := #[]
  cf := some (fileOf pool2 12 #[] #[{ accessFlags := 8, nameIndex := 76, descriptorIndex := 77, attributes := #[] }] 48 2 #[] #[{ accessFlags := 26, nameIndex := 71, descriptorIndex := 16, attributes := #[] }, { accessFlags := 18, nameIndex := 18, descriptorIndex := 29, attributes := #[] }, { accessFlags := 2, nameIndex := 15, descriptorIndex := 16, attributes := #[] }, { accessFlags := 2, nameIndex := 43, descriptorIndex := 16, attributes := #[] }, { accessFlags := 2, nameIndex := 59, descriptorIndex := 16, attributes := #[] }, { accessFlags := 2, nameIndex := 46, descriptorIndex := 16, attributes := #[] }, { accessFlags := 2, nameIndex := 66, descriptorIndex := 16, attributes := #[] }])
  fields := #[{ name := "MILLIS_PER_SECOND", type := .long, accessFlags := 26, slot := 0, constantValue := 0 }, { name := "clock", type := (.object "java/time/Clock"), accessFlags := 18, slot := 0, constantValue := 0 }, { name := "second", type := .long, accessFlags := 2, slot := 1, constantValue := 0 }, { name := "usersInSecond", type := .long, accessFlags := 2, slot := 2, constantValue := 0 }, { name := "sweepInSecond", type := .long, accessFlags := 2, slot := 3, constantValue := 0 }, { name := "userUnits", type := .long, accessFlags := 2, slot := 4, constantValue := 0 }, { name := "sweepUnits", type := .long, accessFlags := 2, slot := 5, constantValue := 0 }]
  methods := #[k2m0]
  instanceTypes := #[(.object "java/time/Clock"), .long, .long, .long, .long, .long]
  staticTypes := #[.long]
  resolved := Array.replicate 84 none
  statics := none }

def pool3 : Array CpInfo := pool [(1, .class_ 2), (0, u "java/lang/Math"), (1, .class_ 6), (1, u "java/lang/Object"), (0, u "<init>"), (0, u "()V"), (89, .class_ 100), (1, u "java/lang/Math$RandomNumberGeneratorHolder"), (20, u "(JJ)J"), (23, u "floorDiv"), (26, u "negativeZeroFloatBits"), (0, u "J"), (2, u "negativeZeroDoubleBits"), (68, u "$assertionsDisabled"), (0, u "Z"), (91, u "twoToTheDoubleScaleDown"), (0, u "D"), (4, u "twoToTheDoubleScaleUp"), (9, u "E"), (3, u "PI"), (2, u "TAU"), (2, u "DEGREES_TO_RADIANS"), (0, u "RADIANS_TO_DEGREES")] 94

def k3m0 : Method := { name := "<init>", desc := "()V", sig := { parameters := [], returnType := none }, accessFlags := 2, code := none }
def k3c1 : Code := { maxStack := 4, maxLocals := 6, code := jdk_29_method_49_code, exceptionTable := #[], attributes := #[] }
def k3m1 : Method := { name := "floorDiv", desc := "(JJ)J", sig := { parameters := [.long, .long], returnType := some .long }, accessFlags := 9, code := some k3c1 }
/-- java/lang/Math -/
def k3 : Class := { plain "java/lang/Math" (some 0) with
  accessFlags := 49
  interfaces := #[]
  cf := some (fileOf pool3 1 #[.nestMembers #[98]] #[{ accessFlags := 2, nameIndex := 7, descriptorIndex := 8, attributes := #[] }, { accessFlags := 9, nameIndex := 145, descriptorIndex := 121, attributes := #[] }] 49 4 #[] #[{ accessFlags := 25, nameIndex := 354, descriptorIndex := 339, attributes := #[] }, { accessFlags := 25, nameIndex := 358, descriptorIndex := 339, attributes := #[] }, { accessFlags := 25, nameIndex := 361, descriptorIndex := 339, attributes := #[] }, { accessFlags := 26, nameIndex := 364, descriptorIndex := 339, attributes := #[] }, { accessFlags := 26, nameIndex := 365, descriptorIndex := 339, attributes := #[] }, { accessFlags := 26, nameIndex := 172, descriptorIndex := 173, attributes := #[] }, { accessFlags := 26, nameIndex := 176, descriptorIndex := 173, attributes := #[] }, { accessFlags := 8, nameIndex := 344, descriptorIndex := 339, attributes := #[] }, { accessFlags := 8, nameIndex := 338, descriptorIndex := 339, attributes := #[] }, { accessFlags := 4120, nameIndex := 245, descriptorIndex := 246, attributes := #[] }])
  fields := #[{ name := "E", type := .double, accessFlags := 25, slot := 0, constantValue := 0 }, { name := "PI", type := .double, accessFlags := 25, slot := 1, constantValue := 0 }, { name := "TAU", type := .double, accessFlags := 25, slot := 2, constantValue := 0 }, { name := "DEGREES_TO_RADIANS", type := .double, accessFlags := 26, slot := 3, constantValue := 0 }, { name := "RADIANS_TO_DEGREES", type := .double, accessFlags := 26, slot := 4, constantValue := 0 }, { name := "negativeZeroFloatBits", type := .long, accessFlags := 26, slot := 5, constantValue := 0 }, { name := "negativeZeroDoubleBits", type := .long, accessFlags := 26, slot := 6, constantValue := 0 }, { name := "twoToTheDoubleScaleUp", type := .double, accessFlags := 8, slot := 7, constantValue := 0 }, { name := "twoToTheDoubleScaleDown", type := .double, accessFlags := 8, slot := 8, constantValue := 0 }, { name := "$assertionsDisabled", type := .boolean, accessFlags := 4120, slot := 9, constantValue := 0 }]
  methods := #[k3m0, k3m1]
  instanceTypes := #[]
  staticTypes := #[.double, .double, .double, .double, .double, .long, .long, .double, .double, .boolean]
  resolved := Array.replicate 460 none
  statics := none }

def pool4 : Array CpInfo := pool [(1, u "java/lang/Cloneable"), (0, .class_ 1), (0, u "java/lang/Object"), (0, .class_ 3)] 3

/-- java/lang/Cloneable -/
def k4 : Class := { plain "java/lang/Cloneable" (some 0) with
  accessFlags := 1537
  interfaces := #[]
  cf := some (fileOf pool4 2 #[] #[] 1537 4 #[] #[])
  fields := #[]
  methods := #[]
  instanceTypes := #[]
  staticTypes := #[]
  resolved := Array.replicate 8 none
  statics := none }

def pool5 : Array CpInfo := pool [(1, u "java/io/Serializable"), (0, .class_ 1), (0, u "java/lang/Object"), (0, .class_ 3)] 3

/-- java/io/Serializable -/
def k5 : Class := { plain "java/io/Serializable" (some 0) with
  accessFlags := 1537
  interfaces := #[]
  cf := some (fileOf pool5 2 #[] #[] 1537 4 #[] #[])
  fields := #[]
  methods := #[]
  instanceTypes := #[]
  staticTypes := #[]
  resolved := Array.replicate 8 none
  statics := none }

/-- the primitive byte -/
def k6 : Class := { plain "byte" none with kind := .primitive 'B', accessFlags := 0x411 }
/-- [B -/
def k7 : Class := { plain "[B" (some 0) with kind := .array 6 .byte, interfaces := #[4, 5], accessFlags := 1041 }

/-- the primitive int -/
def k8 : Class := { plain "int" none with kind := .primitive 'I', accessFlags := 0x411 }
/-- [I -/
def k9 : Class := { plain "[I" (some 0) with kind := .array 8 .int, interfaces := #[4, 5], accessFlags := 1041 }

def heap : Heap := #[]
def classes : Array Class := #[k0, k1, k2, k3, k4, k5, k6, k7, k8, k9]
def interned : List (Array UInt16 × Addr) := []
def slotsUsed : Nat := 0
def theMethod : MethodId := ⟨1, 1⟩
def args0 : Array Value := #[.long 5]
def aboutOver (below : List Frame) : State where
  vm := { classes := classes, interned := interned.toArray }
  heap := heap
  slotsUsed := slotsUsed
  threads := #[{ frames := .invoking theMethod args0 :: below }]
def below0 : List Frame := [.native { method := ⟨0, 0⟩, args := #[] }]
def about1 : State := aboutOver below0
def p0 : Program := .bare "" "" ""
def e0 : Env := launch0.env 0 0 0
theorem w_frames : about1.frames = Frame.invoking theMethod args0 :: below0 := rfl
set_option maxRecDepth 65536 in
theorem w_args : argsFit about1.vm theMethod args0 = true := by decide +kernel
set_option maxRecDepth 65536 in
theorem w_heap : heapFits about1 = true := by decide +kernel
set_option maxRecDepth 65536 in
theorem w_runnable : about1.curStatus? = some .runnable := by decide +kernel
set_option maxRecDepth 65536 in
theorem w_alone : about1.alone = true := by decide +kernel
set_option maxRecDepth 65536 in
theorem w_named : about1.methodNamed? x = some theMethod := by decide +kernel
set_option maxRecDepth 65536 in
theorem w_hears : about1.hears theMethod below0 = true := by decide +kernel
set_option maxRecDepth 65536 in
theorem w_ripe : about1.ripe theMethod args0 below0 = true := by decide +kernel
theorem w_running : about1.status = .running := rfl
set_option maxRecDepth 65536 in
theorem w_room : about1.hasRoom e0.platform room_1 = true :=
  launch0.hasRoom_least _ room_1 (by decide +kernel) (by decide +kernel) (by decide +kernel) (by decide +kernel) (by decide +kernel) (by decide +kernel)
theorem allAtoms_all (ts : List Jvm.Cond) (a : Array Jvm.Value) (st : Jvm.State) : (allAtoms ts).before a st = ts.all (fun c => c.before a st) := by
  induction ts with
  | nil => rfl
  | cons c t ih =>
    show (Jvm.Cond.and c (allAtoms t)).before a st = _
    rw [Jvm.Cond.before_and, ih, List.all_cons]
def words1 : List Jvm.Cond := Jvm.Cond.code x code maxLocals ret :: tables_1
/-- a 'code' word, met by the world's own term for the bytes: nothing is compared byte by byte -/
theorem code_word {y : MethodName} {bytes : ByteArray} {mx : Nat} {rt : Option FieldType} {a : Array Value} {s : State} {m : MethodId} {meth : Method} {c : Code} (h1 : s.methodNamed? y = some m) (h2 : s.vm.method? m = some meth) (h3 : meth.code = some c) (h4 : c.code = bytes)
    (h5 : (c.maxLocals == mx && c.exceptionTable.isEmpty && decide (c.maxStack ≤ mostOperands) && decide (meth.sig.returnType = rt) && !meth.locks && decide (parseMethodDescriptor y.desc = some meth.sig)) = true) : (Jvm.Cond.code y bytes mx rt).before a s = true := by
  simp only [Bool.and_eq_true, beq_iff_eq, Bool.not_eq_true', decide_eq_true_eq] at h5
  obtain ⟨⟨⟨⟨⟨g1, g2⟩, g3⟩, g4⟩, g5⟩, g6⟩ := h5
  simp [Cond.before, Cond.holds, Cond.value, h1, h2, h3, h4, g1, g2, g3, g4, g5, g6]
def isCode : Jvm.Cond → Bool
  | .code _ _ _ _ => true
  | _ => false
theorem all_split {L : List Jvm.Cond} {P : Jvm.Cond → Bool} (h1 : L.all (fun c => isCode c || P c) = true) (h2 : ∀ c ∈ L.filter isCode, P c = true) : L.all P = true := by
  refine List.all_eq_true.mpr fun c hc => ?_
  have h := List.all_eq_true.mp h1 c hc
  rcases Bool.eq_false_or_eq_true (isCode c) with hi | hi
  · exact h2 c (List.mem_filter.mpr ⟨hc, hi⟩)
  · simpa [hi] using h
set_option maxRecDepth 65536 in
theorem w_c0 : (Jvm.Cond.code x code maxLocals ret).before args0 about1 = true := code_word (m := ⟨1, 1⟩) (meth := k1m1) (c := k1c1) (by decide +kernel) rfl rfl rfl (by decide +kernel)
set_option maxRecDepth 65536 in
theorem w_c1 : (Jvm.Cond.code ({ cls := "com/example/expire_then_sweep/expirethensweep/service/UnitLedger", name := "nextSecondMillis", desc := "(J)J" } : Jvm.MethodName) prog_17_method_2_code (2 : Nat) (Option.some Jvm.ClassFile.FieldType.long)).before args0 about1 = true := code_word (m := ⟨2, 0⟩) (meth := k2m0) (c := k2c0) (by decide +kernel) rfl rfl rfl (by decide +kernel)
set_option maxRecDepth 65536 in
theorem w_c2 : (Jvm.Cond.code ({ cls := "java/lang/Math", name := "floorDiv", desc := "(JJ)J" } : Jvm.MethodName) jdk_29_method_49_code (6 : Nat) (Option.some Jvm.ClassFile.FieldType.long)).before args0 about1 = true := code_word (m := ⟨3, 1⟩) (meth := k3m1) (c := k3c1) (by decide +kernel) rfl rfl rfl (by decide +kernel)
def codes1 : List Jvm.Cond := [Jvm.Cond.code x code maxLocals ret, Jvm.Cond.code ({ cls := "com/example/expire_then_sweep/expirethensweep/service/UnitLedger", name := "nextSecondMillis", desc := "(J)J" } : Jvm.MethodName) prog_17_method_2_code (2 : Nat) (Option.some Jvm.ClassFile.FieldType.long), Jvm.Cond.code ({ cls := "java/lang/Math", name := "floorDiv", desc := "(JJ)J" } : Jvm.MethodName) jdk_29_method_49_code (6 : Nat) (Option.some Jvm.ClassFile.FieldType.long)]
set_option maxRecDepth 65536 in
theorem codes_eq : words1.filter isCode = codes1 := rfl
theorem w_codes : ∀ c ∈ words1.filter isCode, c.before args0 about1 = true := by
  rw [codes_eq]
  intro c hc
  simp only [codes1, List.mem_cons, List.not_mem_nil, or_false] at hc
  rcases hc with rfl | rfl | rfl
  · exact w_c0
  · exact w_c1
  · exact w_c2
set_option maxRecDepth 65536 in
theorem w_t1 : words1.all (fun c => isCode c || c.before args0 about1) = true := by decide +kernel
theorem w_tables : (allAtoms (Jvm.Cond.code x code maxLocals ret :: tables_1)).before args0 about1 = true := by
  rw [allAtoms_all]
  show words1.all (fun c => c.before args0 about1) = true
  refine all_split ?_ w_codes
  rw [w_t1]
set_option maxRecDepth 65536 in
theorem w_case : (Jvm.Cond.and given_1 narrow_1).before args0 about1 = true := by decide +kernel
theorem w_applies : (headSpec (Jvm.Cond.code x code maxLocals ret :: tables_1) room_1).applies x e0.platform about1 = true :=
  (Spec.applies_iff w_frames).mpr ⟨w_running, w_runnable, w_alone, w_named, w_hears, w_ripe, w_room, w_tables⟩
theorem atStart : AtStart classFile x code maxLocals ret World_1 tables_1 room_1 Calls_1 rest_1 Pre_1 launch0 p0 e0 about1 theMethod args0 below0 :=
  ⟨lists_1, trivial, launch0.admits_env _ _ _, launch0.least_env, fairChoices_fair.cas, fairChoices_fair.clock, w_frames, w_args, w_heap, w_applies, trivial, trivial, w_case⟩
end start1
theorem witness_1 : WitnessClaimed_1 := ⟨start1.p0, start1.e0, start1.about1, start1.theMethod, start1.args0, start1.below0, start1.atStart⟩
end Jvm.Pilot.@@N@@
