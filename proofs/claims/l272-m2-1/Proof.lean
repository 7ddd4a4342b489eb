import JvmDerived
import JvmDerived.Pilot.@@N@@Statement
import JvmDerived.Pilot.@@N@@Code
set_option linter.unusedVariables false
set_option linter.unusedSimpArgs false
namespace Jvm.RoadKit
open Sem ClassFile Op Lib Jvm.Stand Jvm.Free Jvm.LawKit
section New
variable {p : Program} {l : Launch} {e : Env} {R : Room} {s : State} {m : MethodId} {args : Array Value} {below : List Frame} {meth : Method} {c : Code} {T : State} {locs : List Loc} {cells slots : Nat}
theorem retI (X : Stand p l e R s m args below meth c T locs cells slots) (hx : p.tables.exec = Jvm.exec) {pc : Nat} {Ls : Array Slot} {z : Int32} {rest : List Value} (hret : meth.sig.returnType = some .int) (hd : decode c.code pc = .ok (.ireturn, 1)) {fs : List Frame}
    (hl : ∀ (f : JFrame) (acts : List Action), f.method = m → f.locked = none → f.entered = [] → (doReturn e (T.setTop f) acts (some (.int z))).1 = T.setFrames fs) : Steps p.tables e below (T.setTop (mkF m pc Ls (.int z :: rest))) (T.setFrames fs) := by
  have hm' : T.vm.method? m = some meth := X.method'
  have hn : narrow .int (.int z) = .int z := rfl
  show Steps p.tables e below (T.setTop { method := m, pc := pc, locals := Ls, stack := _ :: rest, locked := none }) _
  jvm_step X.here [X.here.top, hx, hd, hm', hret, hn]
  first | (intro acts; rw [hl _ acts rfl rfl rfl]) | rw [hl _ _ rfl rfl rfl]
  exact Steps.refl _
end New
end Jvm.RoadKit
namespace Jvm.Pilot.@@N@@
open Jvm Jvm.ClassFile Sem Op Lib Jvm.Free Jvm.Stand Jvm.LawKit Jvm.RoadKit Bundle Jvm.Pilot.@@N@@.Jvm.D
/-- from the state T the run comes to a state of which K holds -/
def own_Go (p : Program) (e : Env) (below : List Frame) (K : State → Prop) (T : State) : Prop := ∃ t, Steps p.tables e below T t ∧ K t
theorem own_st {p : Program} {e : Env} {below : List Frame} {K : State → Prop} {T T' : State} (h : ∀ t, Steps p.tables e below T' t → Steps p.tables e below T t) (g : own_Go p e below K T') : own_Go p e below K T := by
  obtain ⟨t, a, b⟩ := g; exact ⟨t, h t a, b⟩
theorem own_tr {p : Program} {e : Env} {below : List Frame} {K : State → Prop} {T T' : State} (h : Steps p.tables e below T T') (g : own_Go p e below K T') : own_Go p e below K T := by
  obtain ⟨t, a, b⟩ := g; exact ⟨t, h.trans a, b⟩
theorem own_lrem {tb : Tables} [Ours tb] {e : Env} {below : List Frame} {T target : State} {m : MethodId} {c : Code} {g : JFrame} (h : At T m c below) (hx : tb.exec = Jvm.exec) (hg : g.method = m) {x y : Int64} {rest : List Value} (hd : decode c.code g.pc = .ok (.lrem, 1)) (hs : g.stack = .long y :: .long x :: rest) (hy : y ≠ 0)
    (hr : Steps tb e below (T.setTop { g with pc := g.pc + 1, stack := .long (x % y) :: rest }) target) : Steps tb e below (T.setTop g) target := by
  have q : x - x / y * y = x % y := lrem_mod x y
  exact XS.lrem h hx hg hd hs hy (by rw [q]; exact hr)
/-- a boolean's worth: 1 where P holds, 0 where it doesn't -/
def own_B (P : Prop) (r : Int32) : Prop := (r = 1 ∧ P) ∨ (r = 0 ∧ ¬ P)
theorem own_B.yes {P : Prop} {r : Int32} (e : r = 1) (h : P) : own_B P r := Or.inl ⟨e, h⟩
theorem own_B.no {P : Prop} {r : Int32} (e : r = 0) (h : ¬ P) : own_B P r := Or.inr ⟨e, h⟩
theorem own_B.same {P Q : Prop} {r v : Int32} (a : own_B P r) (b : own_B Q v) (h : P ↔ Q) : r = v := by
  rcases a with ⟨rfl, p⟩ | ⟨rfl, p⟩ <;> rcases b with ⟨rfl, q⟩ | ⟨rfl, q⟩
  · rfl
  · exact absurd (h.mp p) q
  · exact absurd (h.mpr q) p
  · rfl
theorem own_B.one {P : Prop} {r : Int32} (a : own_B P r) (h : P) : r = 1 := by
  rcases a with ⟨rfl, p⟩ | ⟨rfl, p⟩
  · rfl
  · exact absurd h p
theorem own_B.zero {P : Prop} {r : Int32} (a : own_B P r) (h : ¬ P) : r = 0 := by
  rcases a with ⟨rfl, p⟩ | ⟨rfl, p⟩
  · exact absurd p h
  · rfl
theorem own_B.ne0 {P : Prop} {r : Int32} (a : own_B P r) (h : P) : ¬ r = 0 := by rw [a.one h]; decide
theorem own_B.holds {P : Prop} {r : Int32} (a : own_B P r) (h : ¬ r = 0) : P := by
  rcases a with ⟨rfl, p⟩ | ⟨rfl, p⟩
  · exact p
  · exact absurd rfl h
theorem own_B.fails {P : Prop} {r : Int32} (a : own_B P r) (h : r = 0) : ¬ P := by
  rcases a with ⟨rfl, p⟩ | ⟨rfl, p⟩
  · exact absurd h (by decide)
  · exact p
theorem own_atJ (ws : List Int64) (i : Nat) : (ws.map Value.long).getD i (.long (0 : Int64)) = .long (ws.getD i 0) := by
  simp only [List.getD, List.getElem?_map]; cases ws[i]? <;> rfl
theorem own_atI (ws : List Int32) (i : Nat) : (ws.map Value.int).getD i (.int (0 : Int32)) = .int (ws.getD i 0) := by
  simp only [List.getD, List.getElem?_map]; cases ws[i]? <;> rfl
theorem own_selp {Z s : State} {a0 args : Array Value} {y : MethodName} {n : Nat} (hZ : Z.Warmed39 s.vm) (wi : (Jvm.Cond.instantiable y.cls n).before a0 Z = true) (wm : (Jvm.Cond.instanceMethod y).before a0 Z = true) (wp : (Jvm.Cond.privateMethod y).before a0 Z = true) (hy : y.cls ≠ "java/lang/invoke/MethodHandle" ∧ y.cls ≠ "java/lang/invoke/VarHandle") : (Jvm.Cond.selects y.cls y y).before args s = true := by
  have w1 : (Jvm.Cond.instantiable y.cls n).before args s = true := mvT hZ wi
  obtain ⟨c, k, h1, h2, h3, h4, -⟩ := Cond.instantiable_spec w1
  have h5 : k.isInterface = false := by cases hq : k.isInterface <;> simp [hq] at h4 ⊢
  exact selects_self_of_private h1 h2 h5 (Cond.privateMethod_at (mvP hZ wp (args := args))) (mvT hZ wm) hy
theorem own_hat {T : State} {h : Heap} {a : Addr} {c : Cell} (e : T.heap = h) (q : h[a]? = some c) : T.heap[a]? = some c := by rw [e]; exact q
theorem own_nn (x : Int32) : nar .byte (nar .byte x) = nar .byte x := by
  refine Int32.toInt_inj.mp ?_
  have a := c_i2b x
  have b := c_i2b x.toInt8.toInt32
  show x.toInt8.toInt32.toInt8.toInt32.toInt = x.toInt8.toInt32.toInt
  omega
theorem own_nb (x : Int32) : nar .byte x.toInt8.toInt32 = x.toInt8.toInt32 := own_nn x
theorem own_fit {x : Int32} (h : nar .byte x = x) : fits .byte (.int x) = true := by rw [← h]; exact fits_nar_byte x
theorem own_cl {j : Int32} {i : Nat} (h : j.toInt = (i : Int)) : j.toNatClampNeg = i := by rw [Int32.toNatClampNeg, h]; rfl
theorem own_lt {a b : Int32} (h : a.toInt < b.toInt) : a < b := Int32.lt_iff_toInt_lt.mpr h
theorem own_nlt {a b : Int32} (h : b.toInt ≤ a.toInt) : ¬ a < b := fun q => absurd (Int32.lt_iff_toInt_lt.mp q) (by omega)
theorem own_ltI {a b : Int32} (h : a < b) : a.toInt < b.toInt := Int32.lt_iff_toInt_lt.mp h
theorem own_nltI {a b : Int32} (h : ¬ a < b) : b.toInt ≤ a.toInt := by have := mt Int32.lt_iff_toInt_lt.mpr h; omega
theorem own_neI {a b : Int32} (h : ¬ a = b) : ¬ a.toInt = b.toInt := fun q => h (Int32.toInt_inj.mp q)
theorem own_ltL {a b : Int64} (h : a < b) : a.toInt < b.toInt := Int64.lt_iff_toInt_lt.mp h
theorem own_nltL {a b : Int64} (h : ¬ a < b) : b.toInt ≤ a.toInt := by have := mt Int64.lt_iff_toInt_lt.mpr h; omega
theorem own_neL {a b : Int64} (h : ¬ a = b) : ¬ a.toInt = b.toInt := fun q => h (Int64.toInt_inj.mp q)
def own_ws (c : Int32) : Prop := c = 32 ∨ c = 9
def own_all (xs : List Int32) (f t : Int32) : Prop := ∀ j : Nat, f.toInt ≤ (j : Int) → (j : Int) < t.toInt → own_ws (xs.getD j 0)
def own_ok (xs : List Int32) (f t : Int32) (j : Nat) : Prop := f.toInt ≤ (j : Int) → (j : Int) < t.toInt → own_ws (xs.getD j 0)
theorem own_i1 {i t : Int32} (h : i < t) : (i + (1 : Int32)).toInt = i.toInt + 1 := by
  have a := c_iadd i 1
  have t1 : (1 : Int32).toInt = 1 := by decide
  have r := rng32 (i + 1)
  have q := own_ltI h
  have r2 := rng32 t
  have r3 := rng32 i
  rw [t1] at a
  omega
def own_inv (xs : List Int32) (f t : Int32) (k : Nat) (i : Int32) : Prop := 0 < k ∧ t.toInt - i.toInt < k ∧ 0 ≤ i.toInt ∧ f.toInt ≤ i.toInt ∧ ∀ j : Nat, f.toInt ≤ (j : Int) → (j : Int) < i.toInt → own_ws (xs.getD j 0)
theorem own_inv0 {xs : List Int32} {f t : Int32} (hp : 0 ≤ f.toInt) : own_inv xs f t ((t.toInt - f.toInt).toNat + 1) f := ⟨Nat.succ_pos _, by omega, hp, Int.le_refl _, fun j a b => by omega⟩
theorem own_inv1 {xs : List Int32} {f t : Int32} {k : Nat} {i : Int32} (h : own_inv xs f t (k + 1) i) (hl : i < t) (hn : own_ws (xs.getD i.toNatClampNeg 0)) : own_inv xs f t k (i + (1 : Int32)) := by
  obtain ⟨a, b, c, c', d⟩ := h
  have e := own_i1 hl
  have q := own_ltI hl
  refine ⟨by omega, by omega, by omega, by omega, fun j hf hj => ?_⟩
  by_cases y : (j : Int) = i.toInt
  · rw [own_cl (i := j) y.symm] at hn
    exact hn
  · exact d j hf (by omega)
theorem own_out {xs : List Int32} {f t : Int32} {k : Nat} {i : Int32} (h : own_inv xs f t k i) (hl : ¬ i < t) : own_all xs f t := fun j a b => by
  have q := own_nltI hl
  exact h.2.2.2.2 j a (by omega)
theorem own_bad {xs : List Int32} {f t : Int32} {k : Nat} {i : Int32} (h : own_inv xs f t k i) (hl : i < t) (h1 : ¬ xs.getD i.toNatClampNeg 0 = 32) (h2 : ¬ xs.getD i.toNatClampNeg 0 = 9) : ¬ own_all xs f t := fun q => by
  have c := nat_of (own_nlt (a := i) (b := 0) h.2.2.1)
  have z := own_ltI hl
  have y := h.2.2.2.1
  exact (q i.toNatClampNeg (by omega) (by omega)).elim h1 h2
theorem own_ok1 {xs : List Int32} {i f t : Int32} (h0 : ¬ i < 0) (h1 : i < f) : own_ok xs f t i.toNatClampNeg := fun a b => by
  have c := nat_of h0
  have z := own_ltI h1
  omega
theorem own_ok2 {xs : List Int32} {i f t : Int32} (h0 : ¬ i < 0) (h1 : ¬ i < t) : own_ok xs f t i.toNatClampNeg := fun a b => by
  have c := nat_of h0
  have z := own_nltI h1
  omega
theorem own_ok3 {xs : List Int32} {i f t : Int32} (h0 : ¬ i < 0) (h1 : ¬ i < f) (h2 : i < t) (h : ¬ own_ws (xs.getD i.toNatClampNeg 0)) : ¬ own_ok xs f t i.toNatClampNeg := fun q => by
  have c := nat_of h0
  have z := own_nltI h1
  have y := own_ltI h2
  exact h (q (by omega) (by omega))
theorem own_five {xs : List Int32} {f t : Int32} (ht : t.toInt ≤ 5) (h0 : own_ok xs f t 0) (h1 : own_ok xs f t 1) (h2 : own_ok xs f t 2) (h3 : own_ok xs f t 3) (h4 : own_ok xs f t 4) : own_all xs f t := fun j a b => by
  have : j = 0 ∨ j = 1 ∨ j = 2 ∨ j = 3 ∨ j = 4 := by omega
  rcases this with rfl | rfl | rfl | rfl | rfl
  · exact h0 a b
  · exact h1 a b
  · exact h2 a b
  · exact h3 a b
  · exact h4 a b
theorem own_rem6 {c j : Int32} (h : (c &&& (7 : Int32)) % (6 : Int32) = j) : 0 ≤ j.toInt ∧ j.toInt ≤ 5 := by
  have k : (c &&& (7 : Int32)).toInt = c.toInt % 8 := c_mask c 7 3 (by decide) (by decide)
  have v := (c_irem (c &&& 7) 6 6 (by decide)).1 (by omega)
  rw [h] at v
  omega
theorem own_two {a b r : Int32} (h : r = a ∨ r = b) (ha : 0 ≤ a.toInt ∧ a.toInt ≤ 5) (hb : 0 ≤ b.toInt ∧ b.toInt ≤ 5) : 0 ≤ r.toInt ∧ r.toInt ≤ 5 := by
  rcases h with rfl | rfl
  · exact ha
  · exact hb
theorem d1_0 : decode method_2_code 0 = .ok (.iload_n 0, 1) := by decide +kernel
theorem d1_1 : decode method_2_code 1 = .ok (.iconst 3, 1) := by decide +kernel
theorem d1_2 : decode method_2_code 2 = .ok (.iand, 1) := by decide +kernel
theorem d1_3 : decode method_2_code 3 = .ok (.istore_n 1, 1) := by decide +kernel
theorem d1_4 : decode method_2_code 4 = .ok (.iload_n 1, 1) := by decide +kernel
theorem d1_5 : decode method_2_code 5 = .ok (.ifCond .ne 6, 3) := by decide +kernel
theorem d1_8 : decode method_2_code 8 = .ok (.bipush 32, 2) := by decide +kernel
theorem d1_10 : decode method_2_code 10 = .ok (.ireturn, 1) := by decide +kernel
theorem d1_11 : decode method_2_code 11 = .ok (.iload_n 1, 1) := by decide +kernel
theorem d1_12 : decode method_2_code 12 = .ok (.iconst 1, 1) := by decide +kernel
theorem d1_13 : decode method_2_code 13 = .ok (.if_icmp .ne 6, 3) := by decide +kernel
theorem d1_16 : decode method_2_code 16 = .ok (.bipush 9, 2) := by decide +kernel
theorem d1_18 : decode method_2_code 18 = .ok (.ireturn, 1) := by decide +kernel
theorem d1_19 : decode method_2_code 19 = .ok (.iload_n 0, 1) := by decide +kernel
theorem d1_20 : decode method_2_code 20 = .ok (.iconst 2, 1) := by decide +kernel
theorem d1_21 : decode method_2_code 21 = .ok (.ishr, 1) := by decide +kernel
theorem d1_22 : decode method_2_code 22 = .ok (.i2b, 1) := by decide +kernel
theorem d1_23 : decode method_2_code 23 = .ok (.ireturn, 1) := by decide +kernel
theorem pn_1 : plainName "org/ranktide/formats/LineReaderBlankPinLaw" = true := by first | (simp [plainName, overriddenIn]; done) | decide +kernel
theorem ef_1 (m : MethodId) (x0 : Int32) : entryFrame m #[(.int x0)] 2 = mkF m 0 #[.val (.int x0), .unset] [] := by first | (simp [entryFrame, mkF, argsToLocals, Value.category]; done) | rfl
def Q1 (Z : State) (p1 : Int32) (h0 : Heap) (n0 : Nat) (v : Option Value) (h : Heap) (L : List Loc) : Prop := ∃ (r : Int32), v = some (.int r) ∧ (nar .byte r = r) ∧ Fr n0 L ∧ h = h0
set_option maxRecDepth 65536 in
set_option maxHeartbeats 40000000 in
theorem rm1 (l : Launch) (Z : State) (a0 : Array Value) (hw : ∀ d ∈ tables_1, d.before a0 Z = true) (ws : List Jvm.Cond) (p1 : Int32) (h0 : Heap) (n0 : Nat) (Z0 : n0 ≤ h0.size)  :
    MetFree l (⟨"org/ranktide/formats/LineReaderBlankPinLaw", "pick", "(I)B"⟩ : MethodName) (head1 (Jvm.Cond.code (⟨"org/ranktide/formats/LineReaderBlankPinLaw", "pick", "(I)B"⟩ : MethodName) method_2_code 2 (some .byte) :: ws) ({ frames := 0, cells := 0, slots := 0, locals := 0 } : Room)) (fun a U => a = #[(.int p1)] ∧ Z.Warmed39 U.vm ∧ U.heap = h0) (fun _ _ _ _ _ => True) (fun _ U o U' => ∃ v L, o = .returned v ∧ Q1 Z p1 h0 n0 v U'.heap L ∧ FrameEnd U o U' L ({ frames := 0, cells := 0, slots := 0, locals := 0 } : Room).cells ({ frames := 0, cells := 0, slots := 0, locals := 0 } : Room).slots) := by
  refine MetFree.of_bodySF (plainFor_of_name pn_1) hisR ?_
  intro p e s m args below meth c s₁ Bd hml0 hP hK
  obtain ⟨rfl, hZ, hh⟩ := hP
  have hx := Bd.exec
  have hby := Bd.bytes
  have hml : c.maxLocals = 2 := hml0
  have hown : s.vm.findClass "org/ranktide/formats/LineReaderBlankPinLaw" = some m.cls := findClass_of_methodNamed Bd.named
  have hnm := (name_of_methodNamed Bd.named Bd.method).1
  have X0 : Stand p l e ({ frames := 0, cells := 0, slots := 0, locals := 0 } : Room) s m #[(.int p1)] below meth c s₁ [] 0 0 := Stand.of_body Bd
  have e0 : s₁.heap = h0 := by rw [← hh, Bd.state]; rfl
  have N0 := Fr.nil n0
  suffices G0 : ∀ K : State → Prop, (∀ (n : State) (v : Option Value) (L : List Loc), n.status = .running → Ended n below (.returned v) → Q1 Z p1 h0 n0 v n.heap L → FrameEnd s (.returned v) n L ({ frames := 0, cells := 0, slots := 0, locals := 0 } : Room).cells ({ frames := 0, cells := 0, slots := 0, locals := 0 } : Room).slots → K n) → own_Go p e below K (s₁.setTop (mkF m 0 #[.val (.int p1), .unset] [])) by
    obtain ⟨t, st, o, a, b, v, L, e1, q, fe⟩ := G0 (fun n => ∃ o, n.status = .running ∧ Ended n below o ∧ ∃ v L, o = .returned v ∧ Q1 Z p1 h0 n0 v n.heap L ∧ FrameEnd s o n L ({ frames := 0, cells := 0, slots := 0, locals := 0 } : Room).cells ({ frames := 0, cells := 0, slots := 0, locals := 0 } : Room).slots) (fun n v L a b q f => ⟨_, a, b, v, L, rfl, q, f⟩)
    exact ⟨t, o, castTop (ef_1 m p1) st, a, b, v, L, e1, q, fe⟩
  intro K fin
  show own_Go p e below K (s₁.setTop (mkF m 0 #[.val (.int p1), .unset] []))
  refine own_st (fun t k => XS.iloadN X0.here hx rfl (hb hby d1_0) rfl k) ?_
  show own_Go p e below K (s₁.setTop (mkF m 1 #[.val (.int p1), .unset] [(.int p1)]))
  refine own_st (fun t k => XS.iconst X0.here hx rfl (hb hby d1_1) k) ?_
  show own_Go p e below K (s₁.setTop (mkF m 2 #[.val (.int p1), .unset] [(.int (3 : Int32)), (.int p1)]))
  refine own_st (fun t k => XS.iand X0.here hx rfl (hb hby d1_2) rfl k) ?_
  show own_Go p e below K (s₁.setTop (mkF m 3 #[.val (.int p1), .unset] [(.int (p1 &&& (3 : Int32)))]))
  refine own_st (fun t k => XS.istoreN X0.here hx rfl (hb hby d1_3) rfl (l' := #[.val (.int p1), .val (.int (p1 &&& (3 : Int32)))]) rfl k) ?_
  show own_Go p e below K (s₁.setTop (mkF m 4 #[.val (.int p1), .val (.int (p1 &&& (3 : Int32)))] []))
  refine own_st (fun t k => XS.iloadN X0.here hx rfl (hb hby d1_4) rfl k) ?_
  show own_Go p e below K (s₁.setTop (mkF m 5 #[.val (.int p1), .val (.int (p1 &&& (3 : Int32)))] [(.int (p1 &&& (3 : Int32)))]))
  by_cases hc5 : (p1 &&& (3 : Int32)) = (0 : Int32)
  · refine own_st (fun t k => XS.ifNo X0.here hx rfl (hb hby d1_5) rfl ((if0 _ _).trans (teq hc5).2) k) ?_
    show own_Go p e below K (s₁.setTop (mkF m 8 #[.val (.int p1), .val (.int (p1 &&& (3 : Int32)))] []))
    refine own_st (fun t k => XS.bipush X0.here hx rfl (hb hby d1_8) k) ?_
    show own_Go p e below K (s₁.setTop (mkF m 10 #[.val (.int p1), .val (.int (p1 &&& (3 : Int32)))] [(.int (32 : Int32))]))
    obtain ⟨fs, hr, hrun, hended, hW, hsame⟩ := X0.leave (v := some (.int (nar .byte (32 : Int32)))) (fun h => by rw [Bd.returns] at h; cases h)
    refine ⟨_, retN X0 hx (t := .byte) Bd.returns (by simp) (hb hby d1_10) hr, fin _ _ _ hrun hended ?_ ⟨⟨_, rfl⟩, hW, hsame.mono (by decide) (by decide)⟩⟩
    show Q1 Z p1 h0 n0 _ s₁.heap _
    rw [e0]
    exact ⟨_, rfl, (own_nn _), N0, rfl⟩
  refine own_st (fun t k => XS.ifYes X0.here hx rfl (pc0 := 5) (pc' := 11) rfl (hb hby d1_5) rfl ((if0 _ _).trans (feq hc5).2) (by decide) (by decide) k) ?_
  show own_Go p e below K (s₁.setTop (mkF m 11 #[.val (.int p1), .val (.int (p1 &&& (3 : Int32)))] []))
  refine own_st (fun t k => XS.iloadN X0.here hx rfl (hb hby d1_11) rfl k) ?_
  show own_Go p e below K (s₁.setTop (mkF m 12 #[.val (.int p1), .val (.int (p1 &&& (3 : Int32)))] [(.int (p1 &&& (3 : Int32)))]))
  refine own_st (fun t k => XS.iconst X0.here hx rfl (hb hby d1_12) k) ?_
  show own_Go p e below K (s₁.setTop (mkF m 13 #[.val (.int p1), .val (.int (p1 &&& (3 : Int32)))] [(.int (1 : Int32)), (.int (p1 &&& (3 : Int32)))]))
  by_cases hc13 : (p1 &&& (3 : Int32)) = (1 : Int32)
  · refine own_st (fun t k => XS.icmpNo X0.here hx rfl (hb hby d1_13) rfl (teq hc13).2 k) ?_
    show own_Go p e below K (s₁.setTop (mkF m 16 #[.val (.int p1), .val (.int (p1 &&& (3 : Int32)))] []))
    refine own_st (fun t k => XS.bipush X0.here hx rfl (hb hby d1_16) k) ?_
    show own_Go p e below K (s₁.setTop (mkF m 18 #[.val (.int p1), .val (.int (p1 &&& (3 : Int32)))] [(.int (9 : Int32))]))
    obtain ⟨fs, hr, hrun, hended, hW, hsame⟩ := X0.leave (v := some (.int (nar .byte (9 : Int32)))) (fun h => by rw [Bd.returns] at h; cases h)
    refine ⟨_, retN X0 hx (t := .byte) Bd.returns (by simp) (hb hby d1_18) hr, fin _ _ _ hrun hended ?_ ⟨⟨_, rfl⟩, hW, hsame.mono (by decide) (by decide)⟩⟩
    show Q1 Z p1 h0 n0 _ s₁.heap _
    rw [e0]
    exact ⟨_, rfl, (own_nn _), N0, rfl⟩
  refine own_st (fun t k => XS.icmpYes X0.here hx rfl (pc0 := 13) (pc' := 19) rfl (hb hby d1_13) rfl (feq hc13).2 (by decide) (by decide) k) ?_
  show own_Go p e below K (s₁.setTop (mkF m 19 #[.val (.int p1), .val (.int (p1 &&& (3 : Int32)))] []))
  refine own_st (fun t k => XS.iloadN X0.here hx rfl (hb hby d1_19) rfl k) ?_
  show own_Go p e below K (s₁.setTop (mkF m 20 #[.val (.int p1), .val (.int (p1 &&& (3 : Int32)))] [(.int p1)]))
  refine own_st (fun t k => XS.iconst X0.here hx rfl (hb hby d1_20) k) ?_
  show own_Go p e below K (s₁.setTop (mkF m 21 #[.val (.int p1), .val (.int (p1 &&& (3 : Int32)))] [(.int (2 : Int32)), (.int p1)]))
  refine own_st (fun t k => XS.ishr X0.here hx rfl (hb hby d1_21) rfl k) ?_
  show own_Go p e below K (s₁.setTop (mkF m 22 #[.val (.int p1), .val (.int (p1 &&& (3 : Int32)))] [(.int (p1 >>> ((2 : Int32) &&& 31)))]))
  refine own_st (fun t k => XS.i2b X0.here hx rfl (hb hby d1_22) rfl k) ?_
  show own_Go p e below K (s₁.setTop (mkF m 23 #[.val (.int p1), .val (.int (p1 &&& (3 : Int32)))] [(.int ((p1 >>> ((2 : Int32) &&& 31)).toInt8.toInt32))]))
  obtain ⟨fs, hr, hrun, hended, hW, hsame⟩ := X0.leave (v := some (.int (nar .byte ((p1 >>> ((2 : Int32) &&& 31)).toInt8.toInt32)))) (fun h => by rw [Bd.returns] at h; cases h)
  refine ⟨_, retN X0 hx (t := .byte) Bd.returns (by simp) (hb hby d1_23) hr, fin _ _ _ hrun hended ?_ ⟨⟨_, rfl⟩, hW, hsame.mono (by decide) (by decide)⟩⟩
  show Q1 Z p1 h0 n0 _ s₁.heap _
  rw [e0]
  exact ⟨_, rfl, (own_nn _), N0, rfl⟩
theorem d2_0 : decode jdk_29_method_69_code 0 = .ok (.iload_n 0, 1) := by decide +kernel
theorem d2_1 : decode jdk_29_method_69_code 1 = .ok (.iload_n 1, 1) := by decide +kernel
theorem d2_2 : decode jdk_29_method_69_code 2 = .ok (.if_icmp .gt 7, 3) := by decide +kernel
theorem d2_5 : decode jdk_29_method_69_code 5 = .ok (.iload_n 0, 1) := by decide +kernel
theorem d2_6 : decode jdk_29_method_69_code 6 = .ok (.goto 4, 3) := by decide +kernel
theorem d2_9 : decode jdk_29_method_69_code 9 = .ok (.iload_n 1, 1) := by decide +kernel
theorem d2_10 : decode jdk_29_method_69_code 10 = .ok (.ireturn, 1) := by decide +kernel
theorem ef_2 (m : MethodId) (x0 : Int32) (x1 : Int32) : entryFrame m #[(.int x0), (.int x1)] 2 = mkF m 0 #[.val (.int x0), .val (.int x1)] [] := by first | (simp [entryFrame, mkF, argsToLocals, Value.category]; done) | rfl
def Q2 (Z : State) (p1 : Int32) (p2 : Int32) (h0 : Heap) (n0 : Nat) (v : Option Value) (h : Heap) (L : List Loc) : Prop := ∃ (r : Int32), v = some (.int r) ∧ (r = p1 ∨ r = p2) ∧ Fr n0 L ∧ h = h0
set_option maxRecDepth 65536 in
set_option maxHeartbeats 40000000 in
theorem rm2 (l : Launch) (Z : State) (a0 : Array Value) (hw : ∀ d ∈ tables_1, d.before a0 Z = true) (ws : List Jvm.Cond) (p1 : Int32) (p2 : Int32) (h0 : Heap) (n0 : Nat) (Z0 : n0 ≤ h0.size)  :
    MetFree l (⟨"java/lang/Math", "min", "(II)I"⟩ : MethodName) (head1 (Jvm.Cond.code (⟨"java/lang/Math", "min", "(II)I"⟩ : MethodName) jdk_29_method_69_code 2 (some .int) :: ws) ({ frames := 0, cells := 0, slots := 0, locals := 0 } : Room)) (fun a U => a = #[(.int p1), (.int p2)] ∧ Z.Warmed39 U.vm ∧ U.heap = h0) (fun _ _ _ _ _ => True) (fun _ U o U' => ∃ v L, o = .returned v ∧ Q2 Z p1 p2 h0 n0 v U'.heap L ∧ FrameEnd U o U' L ({ frames := 0, cells := 0, slots := 0, locals := 0 } : Room).cells ({ frames := 0, cells := 0, slots := 0, locals := 0 } : Room).slots) := by
  refine MetFree.of_bodySF (Jvm.Free.JP.mathPlain rfl (by decide +kernel)) hisR ?_
  intro p e s m args below meth c s₁ Bd hml0 hP hK
  obtain ⟨rfl, hZ, hh⟩ := hP
  have hx := Bd.exec
  have hby := Bd.bytes
  have hml : c.maxLocals = 2 := hml0
  have hown : s.vm.findClass "java/lang/Math" = some m.cls := findClass_of_methodNamed Bd.named
  have hnm := (name_of_methodNamed Bd.named Bd.method).1
  have X0 : Stand p l e ({ frames := 0, cells := 0, slots := 0, locals := 0 } : Room) s m #[(.int p1), (.int p2)] below meth c s₁ [] 0 0 := Stand.of_body Bd
  have e0 : s₁.heap = h0 := by rw [← hh, Bd.state]; rfl
  have N0 := Fr.nil n0
  suffices G0 : ∀ K : State → Prop, (∀ (n : State) (v : Option Value) (L : List Loc), n.status = .running → Ended n below (.returned v) → Q2 Z p1 p2 h0 n0 v n.heap L → FrameEnd s (.returned v) n L ({ frames := 0, cells := 0, slots := 0, locals := 0 } : Room).cells ({ frames := 0, cells := 0, slots := 0, locals := 0 } : Room).slots → K n) → own_Go p e below K (s₁.setTop (mkF m 0 #[.val (.int p1), .val (.int p2)] [])) by
    obtain ⟨t, st, o, a, b, v, L, e1, q, fe⟩ := G0 (fun n => ∃ o, n.status = .running ∧ Ended n below o ∧ ∃ v L, o = .returned v ∧ Q2 Z p1 p2 h0 n0 v n.heap L ∧ FrameEnd s o n L ({ frames := 0, cells := 0, slots := 0, locals := 0 } : Room).cells ({ frames := 0, cells := 0, slots := 0, locals := 0 } : Room).slots) (fun n v L a b q f => ⟨_, a, b, v, L, rfl, q, f⟩)
    exact ⟨t, o, castTop (ef_2 m p1 p2) st, a, b, v, L, e1, q, fe⟩
  intro K fin
  show own_Go p e below K (s₁.setTop (mkF m 0 #[.val (.int p1), .val (.int p2)] []))
  refine own_st (fun t k => XS.iloadN X0.here hx rfl (hb hby d2_0) rfl k) ?_
  show own_Go p e below K (s₁.setTop (mkF m 1 #[.val (.int p1), .val (.int p2)] [(.int p1)]))
  refine own_st (fun t k => XS.iloadN X0.here hx rfl (hb hby d2_1) rfl k) ?_
  show own_Go p e below K (s₁.setTop (mkF m 2 #[.val (.int p1), .val (.int p2)] [(.int p2), (.int p1)]))
  by_cases hc2 : p2 < p1
  · refine own_st (fun t k => XS.icmpYes X0.here hx rfl (pc0 := 2) (pc' := 9) rfl (hb hby d2_2) rfl (tlt hc2).2.2.1 (by decide) (by decide) k) ?_
    show own_Go p e below K (s₁.setTop (mkF m 9 #[.val (.int p1), .val (.int p2)] []))
    refine own_st (fun t k => XS.iloadN X0.here hx rfl (hb hby d2_9) rfl k) ?_
    show own_Go p e below K (s₁.setTop (mkF m 10 #[.val (.int p1), .val (.int p2)] [(.int p2)]))
    obtain ⟨fs, hr, hrun, hended, hW, hsame⟩ := X0.leave (v := some (.int p2)) (fun h => by rw [Bd.returns] at h; cases h)
    refine ⟨_, retI X0 hx Bd.returns (hb hby d2_10) hr, fin _ _ _ hrun hended ?_ ⟨⟨_, rfl⟩, hW, hsame.mono (by decide) (by decide)⟩⟩
    show Q2 Z p1 p2 h0 n0 _ s₁.heap _
    rw [e0]
    exact ⟨_, rfl, (Or.inr rfl), N0, rfl⟩
  refine own_st (fun t k => XS.icmpNo X0.here hx rfl (hb hby d2_2) rfl (flt hc2).2.2.1 k) ?_
  show own_Go p e below K (s₁.setTop (mkF m 5 #[.val (.int p1), .val (.int p2)] []))
  refine own_st (fun t k => XS.iloadN X0.here hx rfl (hb hby d2_5) rfl k) ?_
  show own_Go p e below K (s₁.setTop (mkF m 6 #[.val (.int p1), .val (.int p2)] [(.int p1)]))
  refine own_st (fun t k => XS.goto X0.here hx rfl (pc0 := 6) (pc' := 10) rfl (hb hby d2_6) (by decide) (by decide) k) ?_
  show own_Go p e below K (s₁.setTop (mkF m 10 #[.val (.int p1), .val (.int p2)] [(.int p1)]))
  obtain ⟨fs, hr, hrun, hended, hW, hsame⟩ := X0.leave (v := some (.int p1)) (fun h => by rw [Bd.returns] at h; cases h)
  refine ⟨_, retI X0 hx Bd.returns (hb hby d2_10) hr, fin _ _ _ hrun hended ?_ ⟨⟨_, rfl⟩, hW, hsame.mono (by decide) (by decide)⟩⟩
  show Q2 Z p1 p2 h0 n0 _ s₁.heap _
  rw [e0]
  exact ⟨_, rfl, (Or.inl rfl), N0, rfl⟩
theorem d3_0 : decode jdk_29_method_65_code 0 = .ok (.iload_n 0, 1) := by decide +kernel
theorem d3_1 : decode jdk_29_method_65_code 1 = .ok (.iload_n 1, 1) := by decide +kernel
theorem d3_2 : decode jdk_29_method_65_code 2 = .ok (.if_icmp .lt 7, 3) := by decide +kernel
theorem d3_5 : decode jdk_29_method_65_code 5 = .ok (.iload_n 0, 1) := by decide +kernel
theorem d3_6 : decode jdk_29_method_65_code 6 = .ok (.goto 4, 3) := by decide +kernel
theorem d3_9 : decode jdk_29_method_65_code 9 = .ok (.iload_n 1, 1) := by decide +kernel
theorem d3_10 : decode jdk_29_method_65_code 10 = .ok (.ireturn, 1) := by decide +kernel
theorem ef_3 (m : MethodId) (x0 : Int32) (x1 : Int32) : entryFrame m #[(.int x0), (.int x1)] 2 = mkF m 0 #[.val (.int x0), .val (.int x1)] [] := by first | (simp [entryFrame, mkF, argsToLocals, Value.category]; done) | rfl
def Q3 (Z : State) (p1 : Int32) (p2 : Int32) (h0 : Heap) (n0 : Nat) (v : Option Value) (h : Heap) (L : List Loc) : Prop := ∃ (r : Int32), v = some (.int r) ∧ (r = p1 ∨ r = p2) ∧ Fr n0 L ∧ h = h0
set_option maxRecDepth 65536 in
set_option maxHeartbeats 40000000 in
theorem rm3 (l : Launch) (Z : State) (a0 : Array Value) (hw : ∀ d ∈ tables_1, d.before a0 Z = true) (ws : List Jvm.Cond) (p1 : Int32) (p2 : Int32) (h0 : Heap) (n0 : Nat) (Z0 : n0 ≤ h0.size)  :
    MetFree l (⟨"java/lang/Math", "max", "(II)I"⟩ : MethodName) (head1 (Jvm.Cond.code (⟨"java/lang/Math", "max", "(II)I"⟩ : MethodName) jdk_29_method_65_code 2 (some .int) :: ws) ({ frames := 0, cells := 0, slots := 0, locals := 0 } : Room)) (fun a U => a = #[(.int p1), (.int p2)] ∧ Z.Warmed39 U.vm ∧ U.heap = h0) (fun _ _ _ _ _ => True) (fun _ U o U' => ∃ v L, o = .returned v ∧ Q3 Z p1 p2 h0 n0 v U'.heap L ∧ FrameEnd U o U' L ({ frames := 0, cells := 0, slots := 0, locals := 0 } : Room).cells ({ frames := 0, cells := 0, slots := 0, locals := 0 } : Room).slots) := by
  refine MetFree.of_bodySF (Jvm.Free.JP.mathPlain rfl (by decide +kernel)) hisR ?_
  intro p e s m args below meth c s₁ Bd hml0 hP hK
  obtain ⟨rfl, hZ, hh⟩ := hP
  have hx := Bd.exec
  have hby := Bd.bytes
  have hml : c.maxLocals = 2 := hml0
  have hown : s.vm.findClass "java/lang/Math" = some m.cls := findClass_of_methodNamed Bd.named
  have hnm := (name_of_methodNamed Bd.named Bd.method).1
  have X0 : Stand p l e ({ frames := 0, cells := 0, slots := 0, locals := 0 } : Room) s m #[(.int p1), (.int p2)] below meth c s₁ [] 0 0 := Stand.of_body Bd
  have e0 : s₁.heap = h0 := by rw [← hh, Bd.state]; rfl
  have N0 := Fr.nil n0
  suffices G0 : ∀ K : State → Prop, (∀ (n : State) (v : Option Value) (L : List Loc), n.status = .running → Ended n below (.returned v) → Q3 Z p1 p2 h0 n0 v n.heap L → FrameEnd s (.returned v) n L ({ frames := 0, cells := 0, slots := 0, locals := 0 } : Room).cells ({ frames := 0, cells := 0, slots := 0, locals := 0 } : Room).slots → K n) → own_Go p e below K (s₁.setTop (mkF m 0 #[.val (.int p1), .val (.int p2)] [])) by
    obtain ⟨t, st, o, a, b, v, L, e1, q, fe⟩ := G0 (fun n => ∃ o, n.status = .running ∧ Ended n below o ∧ ∃ v L, o = .returned v ∧ Q3 Z p1 p2 h0 n0 v n.heap L ∧ FrameEnd s o n L ({ frames := 0, cells := 0, slots := 0, locals := 0 } : Room).cells ({ frames := 0, cells := 0, slots := 0, locals := 0 } : Room).slots) (fun n v L a b q f => ⟨_, a, b, v, L, rfl, q, f⟩)
    exact ⟨t, o, castTop (ef_3 m p1 p2) st, a, b, v, L, e1, q, fe⟩
  intro K fin
  show own_Go p e below K (s₁.setTop (mkF m 0 #[.val (.int p1), .val (.int p2)] []))
  refine own_st (fun t k => XS.iloadN X0.here hx rfl (hb hby d3_0) rfl k) ?_
  show own_Go p e below K (s₁.setTop (mkF m 1 #[.val (.int p1), .val (.int p2)] [(.int p1)]))
  refine own_st (fun t k => XS.iloadN X0.here hx rfl (hb hby d3_1) rfl k) ?_
  show own_Go p e below K (s₁.setTop (mkF m 2 #[.val (.int p1), .val (.int p2)] [(.int p2), (.int p1)]))
  by_cases hc2 : p1 < p2
  · refine own_st (fun t k => XS.icmpYes X0.here hx rfl (pc0 := 2) (pc' := 9) rfl (hb hby d3_2) rfl (tlt hc2).1 (by decide) (by decide) k) ?_
    show own_Go p e below K (s₁.setTop (mkF m 9 #[.val (.int p1), .val (.int p2)] []))
    refine own_st (fun t k => XS.iloadN X0.here hx rfl (hb hby d3_9) rfl k) ?_
    show own_Go p e below K (s₁.setTop (mkF m 10 #[.val (.int p1), .val (.int p2)] [(.int p2)]))
    obtain ⟨fs, hr, hrun, hended, hW, hsame⟩ := X0.leave (v := some (.int p2)) (fun h => by rw [Bd.returns] at h; cases h)
    refine ⟨_, retI X0 hx Bd.returns (hb hby d3_10) hr, fin _ _ _ hrun hended ?_ ⟨⟨_, rfl⟩, hW, hsame.mono (by decide) (by decide)⟩⟩
    show Q3 Z p1 p2 h0 n0 _ s₁.heap _
    rw [e0]
    exact ⟨_, rfl, (Or.inr rfl), N0, rfl⟩
  refine own_st (fun t k => XS.icmpNo X0.here hx rfl (hb hby d3_2) rfl (flt hc2).1 k) ?_
  show own_Go p e below K (s₁.setTop (mkF m 5 #[.val (.int p1), .val (.int p2)] []))
  refine own_st (fun t k => XS.iloadN X0.here hx rfl (hb hby d3_5) rfl k) ?_
  show own_Go p e below K (s₁.setTop (mkF m 6 #[.val (.int p1), .val (.int p2)] [(.int p1)]))
  refine own_st (fun t k => XS.goto X0.here hx rfl (pc0 := 6) (pc' := 10) rfl (hb hby d3_6) (by decide) (by decide) k) ?_
  show own_Go p e below K (s₁.setTop (mkF m 10 #[.val (.int p1), .val (.int p2)] [(.int p1)]))
  obtain ⟨fs, hr, hrun, hended, hW, hsame⟩ := X0.leave (v := some (.int p1)) (fun h => by rw [Bd.returns] at h; cases h)
  refine ⟨_, retI X0 hx Bd.returns (hb hby d3_10) hr, fin _ _ _ hrun hended ?_ ⟨⟨_, rfl⟩, hW, hsame.mono (by decide) (by decide)⟩⟩
  show Q3 Z p1 p2 h0 n0 _ s₁.heap _
  rw [e0]
  exact ⟨_, rfl, (Or.inl rfl), N0, rfl⟩
theorem d4_0 : decode method_3_code 0 = .ok (.iload_n 1, 1) := by decide +kernel
theorem d4_1 : decode method_3_code 1 = .ok (.iload_n 2, 1) := by decide +kernel
theorem d4_2 : decode method_3_code 2 = .ok (.if_icmp .lt 8, 3) := by decide +kernel
theorem d4_5 : decode method_3_code 5 = .ok (.iload_n 1, 1) := by decide +kernel
theorem d4_6 : decode method_3_code 6 = .ok (.iload_n 3, 1) := by decide +kernel
theorem d4_7 : decode method_3_code 7 = .ok (.if_icmp .lt 5, 3) := by decide +kernel
theorem d4_10 : decode method_3_code 10 = .ok (.iconst 1, 1) := by decide +kernel
theorem d4_11 : decode method_3_code 11 = .ok (.ireturn, 1) := by decide +kernel
theorem d4_12 : decode method_3_code 12 = .ok (.aload_n 0, 1) := by decide +kernel
theorem d4_13 : decode method_3_code 13 = .ok (.iload_n 1, 1) := by decide +kernel
theorem d4_14 : decode method_3_code 14 = .ok (.baload, 1) := by decide +kernel
theorem d4_15 : decode method_3_code 15 = .ok (.bipush 32, 2) := by decide +kernel
theorem d4_17 : decode method_3_code 17 = .ok (.if_icmp .eq 11, 3) := by decide +kernel
theorem d4_20 : decode method_3_code 20 = .ok (.aload_n 0, 1) := by decide +kernel
theorem d4_21 : decode method_3_code 21 = .ok (.iload_n 1, 1) := by decide +kernel
theorem d4_22 : decode method_3_code 22 = .ok (.baload, 1) := by decide +kernel
theorem d4_23 : decode method_3_code 23 = .ok (.bipush 9, 2) := by decide +kernel
theorem d4_25 : decode method_3_code 25 = .ok (.if_icmp .ne 7, 3) := by decide +kernel
theorem d4_28 : decode method_3_code 28 = .ok (.iconst 1, 1) := by decide +kernel
theorem d4_29 : decode method_3_code 29 = .ok (.goto 4, 3) := by decide +kernel
theorem d4_32 : decode method_3_code 32 = .ok (.iconst 0, 1) := by decide +kernel
theorem d4_33 : decode method_3_code 33 = .ok (.ireturn, 1) := by decide +kernel
theorem pn_4 : plainName "org/ranktide/formats/LineReaderBlankPinLaw" = true := by first | (simp [plainName, overriddenIn]; done) | decide +kernel
theorem ef_4 (m : MethodId) (x0 : Addr) (x1 : Int32) (x2 : Int32) (x3 : Int32) : entryFrame m #[(.ref x0), (.int x1), (.int x2), (.int x3)] 4 = mkF m 0 #[.val (.ref x0), .val (.int x1), .val (.int x2), .val (.int x3)] [] := by first | (simp [entryFrame, mkF, argsToLocals, Value.category]; done) | rfl
def Q4 (Z : State) (a1 : Addr) (p2 : Int32) (p3 : Int32) (p4 : Int32) (xk : ClassId) (xn : Int32) (xs : List Int32) (h0 : Heap) (n0 : Nat) (v : Option Value) (h : Heap) (L : List Loc) : Prop := ∃ (r : Int32), v = some (.int r) ∧ (own_B (own_ok xs p3 p4 p2.toNatClampNeg) r) ∧ Fr n0 L ∧ h = h0
set_option maxRecDepth 65536 in
set_option maxHeartbeats 40000000 in
theorem rm4 (l : Launch) (Z : State) (a0 : Array Value) (hw : ∀ d ∈ tables_1, d.before a0 Z = true) (ws : List Jvm.Cond) (a1 : Addr) (p2 : Int32) (p3 : Int32) (p4 : Int32) (xk : ClassId) (xn : Int32) (xs : List Int32) (h0 : Heap) (n0 : Nat) (Z0 : n0 ≤ h0.size) (P0 : Arv Z h0 a1 xk .byte xn (xs.map Value.int) (.int (0 : Int32))) (h0i : ¬ p2 < 0) (h1i : p2 < xn) :
    MetFree l (⟨"org/ranktide/formats/LineReaderBlankPinLaw", "ok", "([BIII)Z"⟩ : MethodName) (head1 (Jvm.Cond.code (⟨"org/ranktide/formats/LineReaderBlankPinLaw", "ok", "([BIII)Z"⟩ : MethodName) method_3_code 4 (some .boolean) :: ws) ({ frames := 0, cells := 0, slots := 0, locals := 0 } : Room)) (fun a U => a = #[(.ref a1), (.int p2), (.int p3), (.int p4)] ∧ Z.Warmed39 U.vm ∧ U.heap = h0) (fun _ _ _ _ _ => True) (fun _ U o U' => ∃ v L, o = .returned v ∧ Q4 Z a1 p2 p3 p4 xk xn xs h0 n0 v U'.heap L ∧ FrameEnd U o U' L ({ frames := 0, cells := 0, slots := 0, locals := 0 } : Room).cells ({ frames := 0, cells := 0, slots := 0, locals := 0 } : Room).slots) := by
  refine MetFree.of_bodySF (plainFor_of_name pn_4) hisR ?_
  intro p e s m args below meth c s₁ Bd hml0 hP hK
  obtain ⟨rfl, hZ, hh⟩ := hP
  have hx := Bd.exec
  have hby := Bd.bytes
  have hml : c.maxLocals = 4 := hml0
  have hown : s.vm.findClass "org/ranktide/formats/LineReaderBlankPinLaw" = some m.cls := findClass_of_methodNamed Bd.named
  have hnm := (name_of_methodNamed Bd.named Bd.method).1
  have X0 : Stand p l e ({ frames := 0, cells := 0, slots := 0, locals := 0 } : Room) s m #[(.ref a1), (.int p2), (.int p3), (.int p4)] below meth c s₁ [] 0 0 := Stand.of_body Bd
  have e0 : s₁.heap = h0 := by rw [← hh, Bd.state]; rfl
  have N0 := Fr.nil n0
  suffices G0 : ∀ K : State → Prop, (∀ (n : State) (v : Option Value) (L : List Loc), n.status = .running → Ended n below (.returned v) → Q4 Z a1 p2 p3 p4 xk xn xs h0 n0 v n.heap L → FrameEnd s (.returned v) n L ({ frames := 0, cells := 0, slots := 0, locals := 0 } : Room).cells ({ frames := 0, cells := 0, slots := 0, locals := 0 } : Room).slots → K n) → own_Go p e below K (s₁.setTop (mkF m 0 #[.val (.ref a1), .val (.int p2), .val (.int p3), .val (.int p4)] [])) by
    obtain ⟨t, st, o, a, b, v, L, e1, q, fe⟩ := G0 (fun n => ∃ o, n.status = .running ∧ Ended n below o ∧ ∃ v L, o = .returned v ∧ Q4 Z a1 p2 p3 p4 xk xn xs h0 n0 v n.heap L ∧ FrameEnd s o n L ({ frames := 0, cells := 0, slots := 0, locals := 0 } : Room).cells ({ frames := 0, cells := 0, slots := 0, locals := 0 } : Room).slots) (fun n v L a b q f => ⟨_, a, b, v, L, rfl, q, f⟩)
    exact ⟨t, o, castTop (ef_4 m a1 p2 p3 p4) st, a, b, v, L, e1, q, fe⟩
  intro K fin
  show own_Go p e below K (s₁.setTop (mkF m 0 #[.val (.ref a1), .val (.int p2), .val (.int p3), .val (.int p4)] []))
  refine own_st (fun t k => XS.iloadN X0.here hx rfl (hb hby d4_0) rfl k) ?_
  show own_Go p e below K (s₁.setTop (mkF m 1 #[.val (.ref a1), .val (.int p2), .val (.int p3), .val (.int p4)] [(.int p2)]))
  refine own_st (fun t k => XS.iloadN X0.here hx rfl (hb hby d4_1) rfl k) ?_
  show own_Go p e below K (s₁.setTop (mkF m 2 #[.val (.ref a1), .val (.int p2), .val (.int p3), .val (.int p4)] [(.int p3), (.int p2)]))
  by_cases hc2 : p2 < p3
  · refine own_st (fun t k => XS.icmpYes X0.here hx rfl (pc0 := 2) (pc' := 10) rfl (hb hby d4_2) rfl (tlt hc2).1 (by decide) (by decide) k) ?_
    show own_Go p e below K (s₁.setTop (mkF m 10 #[.val (.ref a1), .val (.int p2), .val (.int p3), .val (.int p4)] []))
    refine own_st (fun t k => XS.iconst X0.here hx rfl (hb hby d4_10) k) ?_
    show own_Go p e below K (s₁.setTop (mkF m 11 #[.val (.ref a1), .val (.int p2), .val (.int p3), .val (.int p4)] [(.int (1 : Int32))]))
    obtain ⟨fs, hr, hrun, hended, hW, hsame⟩ := X0.leave (v := some (.int (nar .boolean (1 : Int32)))) (fun h => by rw [Bd.returns] at h; cases h)
    refine ⟨_, retN X0 hx (t := .boolean) Bd.returns (by simp) (hb hby d4_11) hr, fin _ _ _ hrun hended ?_ ⟨⟨_, rfl⟩, hW, hsame.mono (by decide) (by decide)⟩⟩
    show Q4 Z a1 p2 p3 p4 xk xn xs h0 n0 _ s₁.heap _
    rw [e0]
    exact ⟨_, rfl, (own_B.yes (by decide) (own_ok1 h0i hc2)), N0, rfl⟩
  refine own_st (fun t k => XS.icmpNo X0.here hx rfl (hb hby d4_2) rfl (flt hc2).1 k) ?_
  show own_Go p e below K (s₁.setTop (mkF m 5 #[.val (.ref a1), .val (.int p2), .val (.int p3), .val (.int p4)] []))
  refine own_st (fun t k => XS.iloadN X0.here hx rfl (hb hby d4_5) rfl k) ?_
  show own_Go p e below K (s₁.setTop (mkF m 6 #[.val (.ref a1), .val (.int p2), .val (.int p3), .val (.int p4)] [(.int p2)]))
  refine own_st (fun t k => XS.iloadN X0.here hx rfl (hb hby d4_6) rfl k) ?_
  show own_Go p e below K (s₁.setTop (mkF m 7 #[.val (.ref a1), .val (.int p2), .val (.int p3), .val (.int p4)] [(.int p4), (.int p2)]))
  by_cases hc7 : p2 < p4
  · refine own_st (fun t k => XS.icmpYes X0.here hx rfl (pc0 := 7) (pc' := 12) rfl (hb hby d4_7) rfl (tlt hc7).1 (by decide) (by decide) k) ?_
    show own_Go p e below K (s₁.setTop (mkF m 12 #[.val (.ref a1), .val (.int p2), .val (.int p3), .val (.int p4)] []))
    refine own_st (fun t k => XS.aloadN X0.here hx rfl (hb hby d4_12) rfl rfl k) ?_
    show own_Go p e below K (s₁.setTop (mkF m 13 #[.val (.ref a1), .val (.int p2), .val (.int p3), .val (.int p4)] [(.ref a1)]))
    refine own_st (fun t k => XS.iloadN X0.here hx rfl (hb hby d4_13) rfl k) ?_
    show own_Go p e below K (s₁.setTop (mkF m 14 #[.val (.ref a1), .val (.int p2), .val (.int p3), .val (.int p4)] [(.int p2), (.ref a1)]))
    obtain ⟨cl1, Ar1, qa1, Sa1, Ma1, Ha1, Ga1⟩ := id P0
    have hin1 : ¬ (p2 < 0 ∨ cl1.slots.size ≤ (p2).toNatClampNeg) := inb_of Sa1 ⟨h0i, h1i⟩
    refine own_st (X0.baloadBytes hx (j := p2) (v := (.int (xs.getD (p2).toNatClampNeg 0))) (own_hat e0 Ar1.1) (State.isArrayOf_alike hZ.alike Ar1.2.1) Ar1.2.2 hin1 (Has.at Ha1 hin1 (own_atI xs _)) (g := (mkF m 14 #[.val (.ref a1), .val (.int p2), .val (.int p3), .val (.int p4)] [(.int p2), (.ref a1)])) rfl rfl (hb hby d4_14)) ?_
    show own_Go p e below K (s₁.setTop (mkF m 15 #[.val (.ref a1), .val (.int p2), .val (.int p3), .val (.int p4)] [(.int (xs.getD (p2).toNatClampNeg 0))]))
    refine own_st (fun t k => XS.bipush X0.here hx rfl (hb hby d4_15) k) ?_
    show own_Go p e below K (s₁.setTop (mkF m 17 #[.val (.ref a1), .val (.int p2), .val (.int p3), .val (.int p4)] [(.int (32 : Int32)), (.int (xs.getD (p2).toNatClampNeg 0))]))
    by_cases hc17 : (xs.getD (p2).toNatClampNeg 0) = (32 : Int32)
    · refine own_st (fun t k => XS.icmpYes X0.here hx rfl (pc0 := 17) (pc' := 28) rfl (hb hby d4_17) rfl (teq hc17).1 (by decide) (by decide) k) ?_
      show own_Go p e below K (s₁.setTop (mkF m 28 #[.val (.ref a1), .val (.int p2), .val (.int p3), .val (.int p4)] []))
      refine own_st (fun t k => XS.iconst X0.here hx rfl (hb hby d4_28) k) ?_
      show own_Go p e below K (s₁.setTop (mkF m 29 #[.val (.ref a1), .val (.int p2), .val (.int p3), .val (.int p4)] [(.int (1 : Int32))]))
      refine own_st (fun t k => XS.goto X0.here hx rfl (pc0 := 29) (pc' := 33) rfl (hb hby d4_29) (by decide) (by decide) k) ?_
      show own_Go p e below K (s₁.setTop (mkF m 33 #[.val (.ref a1), .val (.int p2), .val (.int p3), .val (.int p4)] [(.int (1 : Int32))]))
      obtain ⟨fs, hr, hrun, hended, hW, hsame⟩ := X0.leave (v := some (.int (nar .boolean (1 : Int32)))) (fun h => by rw [Bd.returns] at h; cases h)
      refine ⟨_, retN X0 hx (t := .boolean) Bd.returns (by simp) (hb hby d4_33) hr, fin _ _ _ hrun hended ?_ ⟨⟨_, rfl⟩, hW, hsame.mono (by decide) (by decide)⟩⟩
      show Q4 Z a1 p2 p3 p4 xk xn xs h0 n0 _ s₁.heap _
      rw [e0]
      exact ⟨_, rfl, (own_B.yes (by decide) fun _ _ => Or.inl hc17), N0, rfl⟩
    refine own_st (fun t k => XS.icmpNo X0.here hx rfl (hb hby d4_17) rfl (feq hc17).1 k) ?_
    show own_Go p e below K (s₁.setTop (mkF m 20 #[.val (.ref a1), .val (.int p2), .val (.int p3), .val (.int p4)] []))
    refine own_st (fun t k => XS.aloadN X0.here hx rfl (hb hby d4_20) rfl rfl k) ?_
    show own_Go p e below K (s₁.setTop (mkF m 21 #[.val (.ref a1), .val (.int p2), .val (.int p3), .val (.int p4)] [(.ref a1)]))
    refine own_st (fun t k => XS.iloadN X0.here hx rfl (hb hby d4_21) rfl k) ?_
    show own_Go p e below K (s₁.setTop (mkF m 22 #[.val (.ref a1), .val (.int p2), .val (.int p3), .val (.int p4)] [(.int p2), (.ref a1)]))
    obtain ⟨cl2, Ar2, qa2, Sa2, Ma2, Ha2, Ga2⟩ := id P0
    have hin2 : ¬ (p2 < 0 ∨ cl2.slots.size ≤ (p2).toNatClampNeg) := inb_of Sa2 ⟨h0i, h1i⟩
    refine own_st (X0.baloadBytes hx (j := p2) (v := (.int (xs.getD (p2).toNatClampNeg 0))) (own_hat e0 Ar2.1) (State.isArrayOf_alike hZ.alike Ar2.2.1) Ar2.2.2 hin2 (Has.at Ha2 hin2 (own_atI xs _)) (g := (mkF m 22 #[.val (.ref a1), .val (.int p2), .val (.int p3), .val (.int p4)] [(.int p2), (.ref a1)])) rfl rfl (hb hby d4_22)) ?_
    show own_Go p e below K (s₁.setTop (mkF m 23 #[.val (.ref a1), .val (.int p2), .val (.int p3), .val (.int p4)] [(.int (xs.getD (p2).toNatClampNeg 0))]))
    refine own_st (fun t k => XS.bipush X0.here hx rfl (hb hby d4_23) k) ?_
    show own_Go p e below K (s₁.setTop (mkF m 25 #[.val (.ref a1), .val (.int p2), .val (.int p3), .val (.int p4)] [(.int (9 : Int32)), (.int (xs.getD (p2).toNatClampNeg 0))]))
    by_cases hc25 : (xs.getD (p2).toNatClampNeg 0) = (9 : Int32)
    · refine own_st (fun t k => XS.icmpNo X0.here hx rfl (hb hby d4_25) rfl (teq hc25).2 k) ?_
      show own_Go p e below K (s₁.setTop (mkF m 28 #[.val (.ref a1), .val (.int p2), .val (.int p3), .val (.int p4)] []))
      refine own_st (fun t k => XS.iconst X0.here hx rfl (hb hby d4_28) k) ?_
      show own_Go p e below K (s₁.setTop (mkF m 29 #[.val (.ref a1), .val (.int p2), .val (.int p3), .val (.int p4)] [(.int (1 : Int32))]))
      refine own_st (fun t k => XS.goto X0.here hx rfl (pc0 := 29) (pc' := 33) rfl (hb hby d4_29) (by decide) (by decide) k) ?_
      show own_Go p e below K (s₁.setTop (mkF m 33 #[.val (.ref a1), .val (.int p2), .val (.int p3), .val (.int p4)] [(.int (1 : Int32))]))
      obtain ⟨fs, hr, hrun, hended, hW, hsame⟩ := X0.leave (v := some (.int (nar .boolean (1 : Int32)))) (fun h => by rw [Bd.returns] at h; cases h)
      refine ⟨_, retN X0 hx (t := .boolean) Bd.returns (by simp) (hb hby d4_33) hr, fin _ _ _ hrun hended ?_ ⟨⟨_, rfl⟩, hW, hsame.mono (by decide) (by decide)⟩⟩
      show Q4 Z a1 p2 p3 p4 xk xn xs h0 n0 _ s₁.heap _
      rw [e0]
      exact ⟨_, rfl, (own_B.yes (by decide) fun _ _ => Or.inr hc25), N0, rfl⟩
    refine own_st (fun t k => XS.icmpYes X0.here hx rfl (pc0 := 25) (pc' := 32) rfl (hb hby d4_25) rfl (feq hc25).2 (by decide) (by decide) k) ?_
    show own_Go p e below K (s₁.setTop (mkF m 32 #[.val (.ref a1), .val (.int p2), .val (.int p3), .val (.int p4)] []))
    refine own_st (fun t k => XS.iconst X0.here hx rfl (hb hby d4_32) k) ?_
    show own_Go p e below K (s₁.setTop (mkF m 33 #[.val (.ref a1), .val (.int p2), .val (.int p3), .val (.int p4)] [(.int (0 : Int32))]))
    obtain ⟨fs, hr, hrun, hended, hW, hsame⟩ := X0.leave (v := some (.int (nar .boolean (0 : Int32)))) (fun h => by rw [Bd.returns] at h; cases h)
    refine ⟨_, retN X0 hx (t := .boolean) Bd.returns (by simp) (hb hby d4_33) hr, fin _ _ _ hrun hended ?_ ⟨⟨_, rfl⟩, hW, hsame.mono (by decide) (by decide)⟩⟩
    show Q4 Z a1 p2 p3 p4 xk xn xs h0 n0 _ s₁.heap _
    rw [e0]
    exact ⟨_, rfl, (own_B.no (by decide) (own_ok3 h0i hc2 hc7 fun q => q.elim hc17 hc25)), N0, rfl⟩
  refine own_st (fun t k => XS.icmpNo X0.here hx rfl (hb hby d4_7) rfl (flt hc7).1 k) ?_
  show own_Go p e below K (s₁.setTop (mkF m 10 #[.val (.ref a1), .val (.int p2), .val (.int p3), .val (.int p4)] []))
  refine own_st (fun t k => XS.iconst X0.here hx rfl (hb hby d4_10) k) ?_
  show own_Go p e below K (s₁.setTop (mkF m 11 #[.val (.ref a1), .val (.int p2), .val (.int p3), .val (.int p4)] [(.int (1 : Int32))]))
  obtain ⟨fs, hr, hrun, hended, hW, hsame⟩ := X0.leave (v := some (.int (nar .boolean (1 : Int32)))) (fun h => by rw [Bd.returns] at h; cases h)
  refine ⟨_, retN X0 hx (t := .boolean) Bd.returns (by simp) (hb hby d4_11) hr, fin _ _ _ hrun hended ?_ ⟨⟨_, rfl⟩, hW, hsame.mono (by decide) (by decide)⟩⟩
  show Q4 Z a1 p2 p3 p4 xk xn xs h0 n0 _ s₁.heap _
  rw [e0]
  exact ⟨_, rfl, (own_B.yes (by decide) (own_ok2 h0i hc7)), N0, rfl⟩
theorem d5_0 : decode prog_25_method_6_code 0 = .ok (.iload_n 1, 1) := by decide +kernel
theorem d5_1 : decode prog_25_method_6_code 1 = .ok (.istore_n 3, 1) := by decide +kernel
theorem d5_2 : decode prog_25_method_6_code 2 = .ok (.iload_n 3, 1) := by decide +kernel
theorem d5_3 : decode prog_25_method_6_code 3 = .ok (.iload_n 2, 1) := by decide +kernel
theorem d5_4 : decode prog_25_method_6_code 4 = .ok (.if_icmp .ge 27, 3) := by decide +kernel
theorem d5_7 : decode prog_25_method_6_code 7 = .ok (.aload_n 0, 1) := by decide +kernel
theorem d5_8 : decode prog_25_method_6_code 8 = .ok (.iload_n 3, 1) := by decide +kernel
theorem d5_9 : decode prog_25_method_6_code 9 = .ok (.baload, 1) := by decide +kernel
theorem d5_10 : decode prog_25_method_6_code 10 = .ok (.bipush 32, 2) := by decide +kernel
theorem d5_12 : decode prog_25_method_6_code 12 = .ok (.if_icmp .eq 13, 3) := by decide +kernel
theorem d5_15 : decode prog_25_method_6_code 15 = .ok (.aload_n 0, 1) := by decide +kernel
theorem d5_16 : decode prog_25_method_6_code 16 = .ok (.iload_n 3, 1) := by decide +kernel
theorem d5_17 : decode prog_25_method_6_code 17 = .ok (.baload, 1) := by decide +kernel
theorem d5_18 : decode prog_25_method_6_code 18 = .ok (.bipush 9, 2) := by decide +kernel
theorem d5_20 : decode prog_25_method_6_code 20 = .ok (.if_icmp .eq 5, 3) := by decide +kernel
theorem d5_23 : decode prog_25_method_6_code 23 = .ok (.iconst 0, 1) := by decide +kernel
theorem d5_24 : decode prog_25_method_6_code 24 = .ok (.ireturn, 1) := by decide +kernel
theorem d5_25 : decode prog_25_method_6_code 25 = .ok (.iinc 3 1, 3) := by decide +kernel
theorem d5_28 : decode prog_25_method_6_code 28 = .ok (.goto (-26), 3) := by decide +kernel
theorem d5_31 : decode prog_25_method_6_code 31 = .ok (.iconst 1, 1) := by decide +kernel
theorem d5_32 : decode prog_25_method_6_code 32 = .ok (.ireturn, 1) := by decide +kernel
theorem pn_5 : plainName "org/ranktide/formats/LineReader" = true := by first | (simp [plainName, overriddenIn]; done) | decide +kernel
theorem ef_5 (m : MethodId) (x0 : Addr) (x1 : Int32) (x2 : Int32) : entryFrame m #[(.ref x0), (.int x1), (.int x2)] 4 = mkF m 0 #[.val (.ref x0), .val (.int x1), .val (.int x2), .unset] [] := by first | (simp [entryFrame, mkF, argsToLocals, Value.category]; done) | rfl
def Q5 (Z : State) (a1 : Addr) (p2 : Int32) (p3 : Int32) (xk : ClassId) (xn : Int32) (xs : List Int32) (h0 : Heap) (n0 : Nat) (v : Option Value) (h : Heap) (L : List Loc) : Prop := ∃ (r : Int32), v = some (.int r) ∧ (own_B (own_all xs p2 p3) r) ∧ Fr n0 L ∧ h = h0
set_option maxRecDepth 65536 in
set_option maxHeartbeats 40000000 in
theorem rm5 (l : Launch) (Z : State) (a0 : Array Value) (hw : ∀ d ∈ tables_1, d.before a0 Z = true) (ws : List Jvm.Cond) (a1 : Addr) (p2 : Int32) (p3 : Int32) (xk : ClassId) (xn : Int32) (xs : List Int32) (h0 : Heap) (n0 : Nat) (Z0 : n0 ≤ h0.size) (P0 : Arv Z h0 a1 xk .byte xn (xs.map Value.int) (.int (0 : Int32))) (hp : 0 ≤ p2.toInt) (hx4 : p3.toInt ≤ xn.toInt) :
    MetFree l (⟨"org/ranktide/formats/LineReader", "blank", "([BII)Z"⟩ : MethodName) (head1 (Jvm.Cond.code (⟨"org/ranktide/formats/LineReader", "blank", "([BII)Z"⟩ : MethodName) prog_25_method_6_code 4 (some .boolean) :: ws) ({ frames := 0, cells := 0, slots := 0, locals := 0 } : Room)) (fun a U => a = #[(.ref a1), (.int p2), (.int p3)] ∧ Z.Warmed39 U.vm ∧ U.heap = h0) (fun _ _ _ _ _ => True) (fun _ U o U' => ∃ v L, o = .returned v ∧ Q5 Z a1 p2 p3 xk xn xs h0 n0 v U'.heap L ∧ FrameEnd U o U' L ({ frames := 0, cells := 0, slots := 0, locals := 0 } : Room).cells ({ frames := 0, cells := 0, slots := 0, locals := 0 } : Room).slots) := by
  refine MetFree.of_bodySF (plainFor_of_name pn_5) hisR ?_
  intro p e s m args below meth c s₁ Bd hml0 hP hK
  obtain ⟨rfl, hZ, hh⟩ := hP
  have hx := Bd.exec
  have hby := Bd.bytes
  have hml : c.maxLocals = 4 := hml0
  have hown : s.vm.findClass "org/ranktide/formats/LineReader" = some m.cls := findClass_of_methodNamed Bd.named
  have hnm := (name_of_methodNamed Bd.named Bd.method).1
  have X0 : Stand p l e ({ frames := 0, cells := 0, slots := 0, locals := 0 } : Room) s m #[(.ref a1), (.int p2), (.int p3)] below meth c s₁ [] 0 0 := Stand.of_body Bd
  have e0 : s₁.heap = h0 := by rw [← hh, Bd.state]; rfl
  have N0 := Fr.nil n0
  suffices G0 : ∀ K : State → Prop, (∀ (n : State) (v : Option Value) (L : List Loc), n.status = .running → Ended n below (.returned v) → Q5 Z a1 p2 p3 xk xn xs h0 n0 v n.heap L → FrameEnd s (.returned v) n L ({ frames := 0, cells := 0, slots := 0, locals := 0 } : Room).cells ({ frames := 0, cells := 0, slots := 0, locals := 0 } : Room).slots → K n) → own_Go p e below K (s₁.setTop (mkF m 0 #[.val (.ref a1), .val (.int p2), .val (.int p3), .unset] [])) by
    obtain ⟨t, st, o, a, b, v, L, e1, q, fe⟩ := G0 (fun n => ∃ o, n.status = .running ∧ Ended n below o ∧ ∃ v L, o = .returned v ∧ Q5 Z a1 p2 p3 xk xn xs h0 n0 v n.heap L ∧ FrameEnd s o n L ({ frames := 0, cells := 0, slots := 0, locals := 0 } : Room).cells ({ frames := 0, cells := 0, slots := 0, locals := 0 } : Room).slots) (fun n v L a b q f => ⟨_, a, b, v, L, rfl, q, f⟩)
    exact ⟨t, o, castTop (ef_5 m a1 p2 p3) st, a, b, v, L, e1, q, fe⟩
  intro K fin
  show own_Go p e below K (s₁.setTop (mkF m 0 #[.val (.ref a1), .val (.int p2), .val (.int p3), .unset] []))
  refine own_st (fun t k => XS.iloadN X0.here hx rfl (hb hby d5_0) rfl k) ?_
  show own_Go p e below K (s₁.setTop (mkF m 1 #[.val (.ref a1), .val (.int p2), .val (.int p3), .unset] [(.int p2)]))
  refine own_st (fun t k => XS.istoreN X0.here hx rfl (hb hby d5_1) rfl (l' := #[.val (.ref a1), .val (.int p2), .val (.int p3), .val (.int p2)]) rfl k) ?_
  show own_Go p e below K (s₁.setTop (mkF m 2 #[.val (.ref a1), .val (.int p2), .val (.int p3), .val (.int p2)] []))
  have Lp2 : ∀ k : Nat, ∀ (T' : State) (locs' : List Loc) (ii : Int32) (X' : Stand p l e ({ frames := 0, cells := 0, slots := 0, locals := 0 } : Room) s m #[(.ref a1), (.int p2), (.int p3)] below meth c T' locs' 0 0) (e' : T'.heap = h0) (N' : Fr n0 locs'), (own_inv xs p2 p3 k ii) → own_Go p e below K (T'.setTop (mkF m 2 #[.val (.ref a1), .val (.int p2), .val (.int p3), .val (.int ii)] [])) := by
    intro k
    induction k with
    | zero =>
      intro T2 locs2 ii X2 e2 N2 hi2
      exact absurd hi2.1 (Nat.lt_irrefl 0)
    | succ k ih =>
      intro T3 locs3 ii X3 e3 N3 hi2
      refine own_st (fun t k => XS.iloadN X3.here hx rfl (hb hby d5_2) rfl k) ?_
      show own_Go p e below K (T3.setTop (mkF m 3 #[.val (.ref a1), .val (.int p2), .val (.int p3), .val (.int ii)] [(.int ii)]))
      refine own_st (fun t k => XS.iloadN X3.here hx rfl (hb hby d5_3) rfl k) ?_
      show own_Go p e below K (T3.setTop (mkF m 4 #[.val (.ref a1), .val (.int p2), .val (.int p3), .val (.int ii)] [(.int p3), (.int ii)]))
      by_cases hc4 : ii < p3
      · refine own_st (fun t k => XS.icmpNo X3.here hx rfl (hb hby d5_4) rfl (tlt hc4).2.1 k) ?_
        show own_Go p e below K (T3.setTop (mkF m 7 #[.val (.ref a1), .val (.int p2), .val (.int p3), .val (.int ii)] []))
        refine own_st (fun t k => XS.aloadN X3.here hx rfl (hb hby d5_7) rfl rfl k) ?_
        show own_Go p e below K (T3.setTop (mkF m 8 #[.val (.ref a1), .val (.int p2), .val (.int p3), .val (.int ii)] [(.ref a1)]))
        refine own_st (fun t k => XS.iloadN X3.here hx rfl (hb hby d5_8) rfl k) ?_
        show own_Go p e below K (T3.setTop (mkF m 9 #[.val (.ref a1), .val (.int p2), .val (.int p3), .val (.int ii)] [(.int ii), (.ref a1)]))
        obtain ⟨cl4, Ar4, qa4, Sa4, Ma4, Ha4, Ga4⟩ := id P0
        have hin4 : ¬ (ii < 0 ∨ cl4.slots.size ≤ (ii).toNatClampNeg) := inb_of Sa4 ⟨own_nlt hi2.2.2.1, own_lt (by have := own_ltI hc4; omega)⟩
        refine own_st (X3.baloadBytes hx (j := ii) (v := (.int (xs.getD (ii).toNatClampNeg 0))) (own_hat e3 Ar4.1) (State.isArrayOf_alike hZ.alike Ar4.2.1) Ar4.2.2 hin4 (Has.at Ha4 hin4 (own_atI xs _)) (g := (mkF m 9 #[.val (.ref a1), .val (.int p2), .val (.int p3), .val (.int ii)] [(.int ii), (.ref a1)])) rfl rfl (hb hby d5_9)) ?_
        show own_Go p e below K (T3.setTop (mkF m 10 #[.val (.ref a1), .val (.int p2), .val (.int p3), .val (.int ii)] [(.int (xs.getD (ii).toNatClampNeg 0))]))
        refine own_st (fun t k => XS.bipush X3.here hx rfl (hb hby d5_10) k) ?_
        show own_Go p e below K (T3.setTop (mkF m 12 #[.val (.ref a1), .val (.int p2), .val (.int p3), .val (.int ii)] [(.int (32 : Int32)), (.int (xs.getD (ii).toNatClampNeg 0))]))
        by_cases hc12 : (xs.getD (ii).toNatClampNeg 0) = (32 : Int32)
        · refine own_st (fun t k => XS.icmpYes X3.here hx rfl (pc0 := 12) (pc' := 25) rfl (hb hby d5_12) rfl (teq hc12).1 (by decide) (by decide) k) ?_
          show own_Go p e below K (T3.setTop (mkF m 25 #[.val (.ref a1), .val (.int p2), .val (.int p3), .val (.int ii)] []))
          refine own_st (fun t k => XS.iinc X3.here hx rfl (hb hby d5_25) rfl (l' := #[.val (.ref a1), .val (.int p2), .val (.int p3), .val (.int (ii + (1 : Int32)))]) rfl k) ?_
          show own_Go p e below K (T3.setTop (mkF m 28 #[.val (.ref a1), .val (.int p2), .val (.int p3), .val (.int (ii + (1 : Int32)))] []))
          refine own_st (fun t k => XS.goto X3.here hx rfl (pc0 := 28) (pc' := 2) rfl (hb hby d5_28) (by decide) (by decide) k) ?_
          show own_Go p e below K (T3.setTop (mkF m 2 #[.val (.ref a1), .val (.int p2), .val (.int p3), .val (.int (ii + (1 : Int32)))] []))
          exact ih T3 _ ((ii + (1 : Int32))) X3 e3 N3 (own_inv1 hi2 hc4 (Or.inl hc12))
        refine own_st (fun t k => XS.icmpNo X3.here hx rfl (hb hby d5_12) rfl (feq hc12).1 k) ?_
        show own_Go p e below K (T3.setTop (mkF m 15 #[.val (.ref a1), .val (.int p2), .val (.int p3), .val (.int ii)] []))
        refine own_st (fun t k => XS.aloadN X3.here hx rfl (hb hby d5_15) rfl rfl k) ?_
        show own_Go p e below K (T3.setTop (mkF m 16 #[.val (.ref a1), .val (.int p2), .val (.int p3), .val (.int ii)] [(.ref a1)]))
        refine own_st (fun t k => XS.iloadN X3.here hx rfl (hb hby d5_16) rfl k) ?_
        show own_Go p e below K (T3.setTop (mkF m 17 #[.val (.ref a1), .val (.int p2), .val (.int p3), .val (.int ii)] [(.int ii), (.ref a1)]))
        obtain ⟨cl5, Ar5, qa5, Sa5, Ma5, Ha5, Ga5⟩ := id P0
        have hin5 : ¬ (ii < 0 ∨ cl5.slots.size ≤ (ii).toNatClampNeg) := inb_of Sa5 ⟨own_nlt hi2.2.2.1, own_lt (by have := own_ltI hc4; omega)⟩
        refine own_st (X3.baloadBytes hx (j := ii) (v := (.int (xs.getD (ii).toNatClampNeg 0))) (own_hat e3 Ar5.1) (State.isArrayOf_alike hZ.alike Ar5.2.1) Ar5.2.2 hin5 (Has.at Ha5 hin5 (own_atI xs _)) (g := (mkF m 17 #[.val (.ref a1), .val (.int p2), .val (.int p3), .val (.int ii)] [(.int ii), (.ref a1)])) rfl rfl (hb hby d5_17)) ?_
        show own_Go p e below K (T3.setTop (mkF m 18 #[.val (.ref a1), .val (.int p2), .val (.int p3), .val (.int ii)] [(.int (xs.getD (ii).toNatClampNeg 0))]))
        refine own_st (fun t k => XS.bipush X3.here hx rfl (hb hby d5_18) k) ?_
        show own_Go p e below K (T3.setTop (mkF m 20 #[.val (.ref a1), .val (.int p2), .val (.int p3), .val (.int ii)] [(.int (9 : Int32)), (.int (xs.getD (ii).toNatClampNeg 0))]))
        by_cases hc20 : (xs.getD (ii).toNatClampNeg 0) = (9 : Int32)
        · refine own_st (fun t k => XS.icmpYes X3.here hx rfl (pc0 := 20) (pc' := 25) rfl (hb hby d5_20) rfl (teq hc20).1 (by decide) (by decide) k) ?_
          show own_Go p e below K (T3.setTop (mkF m 25 #[.val (.ref a1), .val (.int p2), .val (.int p3), .val (.int ii)] []))
          refine own_st (fun t k => XS.iinc X3.here hx rfl (hb hby d5_25) rfl (l' := #[.val (.ref a1), .val (.int p2), .val (.int p3), .val (.int (ii + (1 : Int32)))]) rfl k) ?_
          show own_Go p e below K (T3.setTop (mkF m 28 #[.val (.ref a1), .val (.int p2), .val (.int p3), .val (.int (ii + (1 : Int32)))] []))
          refine own_st (fun t k => XS.goto X3.here hx rfl (pc0 := 28) (pc' := 2) rfl (hb hby d5_28) (by decide) (by decide) k) ?_
          show own_Go p e below K (T3.setTop (mkF m 2 #[.val (.ref a1), .val (.int p2), .val (.int p3), .val (.int (ii + (1 : Int32)))] []))
          exact ih T3 _ ((ii + (1 : Int32))) X3 e3 N3 (own_inv1 hi2 hc4 (Or.inr hc20))
        refine own_st (fun t k => XS.icmpNo X3.here hx rfl (hb hby d5_20) rfl (feq hc20).1 k) ?_
        show own_Go p e below K (T3.setTop (mkF m 23 #[.val (.ref a1), .val (.int p2), .val (.int p3), .val (.int ii)] []))
        refine own_st (fun t k => XS.iconst X3.here hx rfl (hb hby d5_23) k) ?_
        show own_Go p e below K (T3.setTop (mkF m 24 #[.val (.ref a1), .val (.int p2), .val (.int p3), .val (.int ii)] [(.int (0 : Int32))]))
        obtain ⟨fs, hr, hrun, hended, hW, hsame⟩ := X3.leave (v := some (.int (nar .boolean (0 : Int32)))) (fun h => by rw [Bd.returns] at h; cases h)
        refine ⟨_, retN X3 hx (t := .boolean) Bd.returns (by simp) (hb hby d5_24) hr, fin _ _ _ hrun hended ?_ ⟨⟨_, rfl⟩, hW, hsame.mono (by decide) (by decide)⟩⟩
        show Q5 Z a1 p2 p3 xk xn xs h0 n0 _ T3.heap _
        rw [e3]
        exact ⟨_, rfl, (own_B.no (by decide) (own_bad hi2 hc4 hc12 hc20)), N3, rfl⟩
      refine own_st (fun t k => XS.icmpYes X3.here hx rfl (pc0 := 4) (pc' := 31) rfl (hb hby d5_4) rfl (flt hc4).2.1 (by decide) (by decide) k) ?_
      show own_Go p e below K (T3.setTop (mkF m 31 #[.val (.ref a1), .val (.int p2), .val (.int p3), .val (.int ii)] []))
      refine own_st (fun t k => XS.iconst X3.here hx rfl (hb hby d5_31) k) ?_
      show own_Go p e below K (T3.setTop (mkF m 32 #[.val (.ref a1), .val (.int p2), .val (.int p3), .val (.int ii)] [(.int (1 : Int32))]))
      obtain ⟨fs, hr, hrun, hended, hW, hsame⟩ := X3.leave (v := some (.int (nar .boolean (1 : Int32)))) (fun h => by rw [Bd.returns] at h; cases h)
      refine ⟨_, retN X3 hx (t := .boolean) Bd.returns (by simp) (hb hby d5_32) hr, fin _ _ _ hrun hended ?_ ⟨⟨_, rfl⟩, hW, hsame.mono (by decide) (by decide)⟩⟩
      show Q5 Z a1 p2 p3 xk xn xs h0 n0 _ T3.heap _
      rw [e3]
      exact ⟨_, rfl, (own_B.yes (by decide) (own_out hi2 hc4)), N3, rfl⟩
  exact Lp2 ((p3.toInt - p2.toInt).toNat + 1) s₁ _ p2 X0 e0 N0 (own_inv0 hp)
theorem pn_0 : plainName "org/ranktide/formats/LineReaderBlankPinLaw" = true := by first | (simp [plainName, overriddenIn]; done) | decide +kernel
theorem pd_0_0 : parseMethodDescriptor "(I)B" = some ⟨[.int], some .byte⟩ := by decide +kernel
theorem pd_0_1 : parseMethodDescriptor "(II)I" = some ⟨[.int, .int], some .int⟩ := by decide +kernel
theorem pd_0_2 : parseMethodDescriptor "([BIII)Z" = some ⟨[(.array .byte), .int, .int, .int], some .boolean⟩ := by decide +kernel
theorem pd_0_3 : parseMethodDescriptor "([BII)Z" = some ⟨[(.array .byte), .int, .int], some .boolean⟩ := by decide +kernel
theorem ef_0 (m : MethodId) (x0 : Int32) (x1 : Int32) (x2 : Int32) (x3 : Int32) (x4 : Int32) (x5 : Int32) : entryFrame m #[(.int x0), (.int x1), (.int x2), (.int x3), (.int x4), (.int x5)] maxLocals = mkF m 0 #[.val (.int x0), .val (.int x1), .val (.int x2), .val (.int x3), .val (.int x4), .val (.int x5), .unset, .unset, .unset, .unset, .unset, .unset] [] := by first | (simp [entryFrame, mkF, argsToLocals, Value.category, maxLocals]; done) | rfl
def Q0 (Z : State) (p1 : Int32) (p2 : Int32) (p3 : Int32) (p4 : Int32) (p5 : Int32) (p6 : Int32) (h0 : Heap) (n0 : Nat) (v : Option Value) (h : Heap) (L : List Loc) : Prop := v = some (.int 1) ∧ Fr n0 L
set_option maxRecDepth 65536 in
set_option maxHeartbeats 40000000 in
theorem rm0 (l : Launch) (Z : State) (a0 : Array Value) (hw : ∀ d ∈ tables_1, d.before a0 Z = true) (ws : List Jvm.Cond) (p1 : Int32) (p2 : Int32) (p3 : Int32) (p4 : Int32) (p5 : Int32) (p6 : Int32) (h0 : Heap) (n0 : Nat) (Z0 : n0 ≤ h0.size)  :
    MetFree l x (head1 (Jvm.Cond.code x code maxLocals ret :: ws) room_1) (fun a U => a = #[(.int p1), (.int p2), (.int p3), (.int p4), (.int p5), (.int p6)] ∧ Z.Warmed39 U.vm ∧ U.heap = h0) (fun _ _ _ _ _ => True) (fun _ U o U' => ∃ v L, o = .returned v ∧ Q0 Z p1 p2 p3 p4 p5 p6 h0 n0 v U'.heap L ∧ FrameEnd U o U' L 1 5) := by
  refine MetFree.of_bodySF (plainFor_of_name pn_0) hisR ?_
  intro p e s m args below meth c s₁ Bd hml0 hP hK
  obtain ⟨rfl, hZ, hh⟩ := hP
  have hx := Bd.exec
  have hby := Bd.bytes
  have hml : c.maxLocals = 12 := hml0
  have hown : s.vm.findClass "org/ranktide/formats/LineReaderBlankPinLaw" = some m.cls := findClass_of_methodNamed Bd.named
  have hnm := (name_of_methodNamed Bd.named Bd.method).1
  have X0 : Stand p l e room_1 s m #[(.int p1), (.int p2), (.int p3), (.int p4), (.int p5), (.int p6)] below meth c s₁ [] 0 0 := Stand.of_body Bd
  have e0 : s₁.heap = h0 := by rw [← hh, Bd.state]; rfl
  have N0 := Fr.nil n0
  suffices G0 : ∀ K : State → Prop, (∀ (n : State) (v : Option Value) (L : List Loc), n.status = .running → Ended n below (.returned v) → Q0 Z p1 p2 p3 p4 p5 p6 h0 n0 v n.heap L → FrameEnd s (.returned v) n L 1 5 → K n) → own_Go p e below K (s₁.setTop (mkF m 0 #[.val (.int p1), .val (.int p2), .val (.int p3), .val (.int p4), .val (.int p5), .val (.int p6), .unset, .unset, .unset, .unset, .unset, .unset] [])) by
    obtain ⟨t, st, o, a, b, v, L, e1, q, fe⟩ := G0 (fun n => ∃ o, n.status = .running ∧ Ended n below o ∧ ∃ v L, o = .returned v ∧ Q0 Z p1 p2 p3 p4 p5 p6 h0 n0 v n.heap L ∧ FrameEnd s o n L 1 5) (fun n v L a b q f => ⟨_, a, b, v, L, rfl, q, f⟩)
    exact ⟨t, o, castTop (ef_0 m p1 p2 p3 p4 p5 p6) st, a, b, v, L, e1, q, fe⟩
  intro K fin
  show own_Go p e below K (s₁.setTop (mkF m 0 #[.val (.int p1), .val (.int p2), .val (.int p3), .val (.int p4), .val (.int p5), .val (.int p6), .unset, .unset, .unset, .unset, .unset, .unset] []))
  refine own_st (fun t k => XS.iconst X0.here hx rfl (hb hby at_0) k) ?_
  show own_Go p e below K (s₁.setTop (mkF m 1 #[.val (.int p1), .val (.int p2), .val (.int p3), .val (.int p4), .val (.int p5), .val (.int p6), .unset, .unset, .unset, .unset, .unset, .unset] [(.int (5 : Int32))]))
  obtain ⟨T1, h1, k1, X1, e1, E1, A1, st1⟩ := newP X0 hx hZ (hw _ (List.mem_of_getElem? (i := 0) rfl)) e0 (g := (mkF m 1 #[.val (.int p1), .val (.int p2), .val (.int p3), .val (.int p4), .val (.int p5), .val (.int p6), .unset, .unset, .unset, .unset, .unset, .unset] [(.int (5 : Int32))])) rfl (hb hby at_1) rfl (by decide) (cap := 5) (by decide) (by decide) (by decide) (by decide)
  obtain ⟨b1, g1⟩ : ∃ z, z = h0.size := ⟨_, rfl⟩
  rw [← g1] at A1 st1
  have g_b1 : n0 ≤ b1 := Nat.le_trans Z0 (Nat.le_of_eq g1.symm)
  have V1 : Arv Z h1 b1 k1 .byte (5 : Int32) [(.int (0 : Int32)), (.int (0 : Int32)), (.int (0 : Int32)), (.int (0 : Int32)), (.int (0 : Int32))] (.int (0 : Int32)) := (Arv.new A1 (by decide)).pad (pad_rep [] (.int (0 : Int32)) 5)
  have Z1 : n0 ≤ h1.size := Nat.le_trans Z0 E1.1
  refine own_st st1 ?_
  show own_Go p e below K (T1.setTop (mkF m 3 #[.val (.int p1), .val (.int p2), .val (.int p3), .val (.int p4), .val (.int p5), .val (.int p6), .unset, .unset, .unset, .unset, .unset, .unset] [(.ref b1)]))
  refine own_st (fun t k => XS.astore X1.here hx rfl (hb hby at_3) rfl rfl (l' := #[.val (.int p1), .val (.int p2), .val (.int p3), .val (.int p4), .val (.int p5), .val (.int p6), .val (.ref b1), .unset, .unset, .unset, .unset, .unset]) rfl k) ?_
  show own_Go p e below K (T1.setTop (mkF m 5 #[.val (.int p1), .val (.int p2), .val (.int p3), .val (.int p4), .val (.int p5), .val (.int p6), .val (.ref b1), .unset, .unset, .unset, .unset, .unset] []))
  refine own_st (fun t k => XS.aload X1.here hx rfl (hb hby at_5) rfl rfl k) ?_
  show own_Go p e below K (T1.setTop (mkF m 7 #[.val (.int p1), .val (.int p2), .val (.int p3), .val (.int p4), .val (.int p5), .val (.int p6), .val (.ref b1), .unset, .unset, .unset, .unset, .unset] [(.ref b1)]))
  refine own_st (fun t k => XS.iconst X1.here hx rfl (hb hby at_7) k) ?_
  show own_Go p e below K (T1.setTop (mkF m 8 #[.val (.int p1), .val (.int p2), .val (.int p3), .val (.int p4), .val (.int p5), .val (.int p6), .val (.ref b1), .unset, .unset, .unset, .unset, .unset] [(.int (0 : Int32)), (.ref b1)]))
  refine own_st (fun t k => XS.iloadN X1.here hx rfl (hb hby at_8) rfl k) ?_
  show own_Go p e below K (T1.setTop (mkF m 9 #[.val (.int p1), .val (.int p2), .val (.int p3), .val (.int p4), .val (.int p5), .val (.int p6), .val (.ref b1), .unset, .unset, .unset, .unset, .unset] [(.int p1), (.int (0 : Int32)), (.ref b1)]))
  obtain ⟨_, _, ⟨T2, L2, k2, n2⟩, -, X2, ⟨Lc2, hQ2, l2, y2, z2⟩, st2⟩ := Jvm.LawKit.callS X1 hx (y := (⟨"org/ranktide/formats/LineReaderBlankPinLaw", "pick", "(I)B"⟩ : MethodName)) hown (mvT hZ (hw _ (List.mem_of_getElem? (i := 1) rfl))) (mvT hZ (hw _ (List.mem_of_getElem? (i := 2) rfl))) (mvT hZ (hw _ (List.mem_of_getElem? (i := 3) rfl))) (mvT hZ (hw _ (List.mem_of_getElem? (i := 4) rfl))) (by decide) (backOf (W := 2) (rm1 l Z a0 hw [] p1 h1 n0 Z1) hZ (hw _ (List.mem_of_getElem? (i := 4) rfl)) (hw _ (List.mem_of_getElem? (i := 3) rfl)) (by decide) (by decide)) (g := (mkF m 9 #[.val (.int p1), .val (.int p2), .val (.int p3), .val (.int p4), .val (.int p5), .val (.int p6), .val (.ref b1), .unset, .unset, .unset, .unset, .unset] [(.int p1), (.int (0 : Int32)), (.ref b1)])) rfl (by rw [hml]; rfl) (argsL := [(.int p1)]) (rest := [(.int (0 : Int32)), (.ref b1)]) (lenOf pd_0_0 rfl) rfl (by show 2 * 0 + _ ≤ _; exact Nat.le_of_eq rfl) (hb hby at_9) (fun _ _ => ⟨rfl, e1, (by decide : 1 + 0 ≤ _), (by decide : 5 + 0 ≤ _)⟩)
  dsimp only [Pt.U, Pt.locs, Pt.cells, Pt.slots] at X2 l2 y2 z2 st2 hQ2
  subst l2 y2 z2
  obtain ⟨r2, rfl, hr2, N2q, e2⟩ := hQ2
  have N2 := Fr.app N0 N2q
  refine own_st st2 ?_
  show own_Go p e below K (T2.setTop (mkF m 12 #[.val (.int p1), .val (.int p2), .val (.int p3), .val (.int p4), .val (.int p5), .val (.int p6), .val (.ref b1), .unset, .unset, .unset, .unset, .unset] [(.int r2), (.int (0 : Int32)), (.ref b1)]))
  obtain ⟨cl3, Ar3, qa3, Sa3, Ma3, Ha3, Ga3⟩ := id V1
  have hin3 : ¬ ((0 : Int32) < 0 ∨ cl3.slots.size ≤ ((0 : Int32)).toNatClampNeg) := inb_of Sa3 ⟨by decide, by decide⟩
  obtain ⟨T4, h4, X4, e4, W4, st4⟩ := stB X2 hx hZ e2 Ar3 (j := (0 : Int32)) hin3 (g := (mkF m 12 #[.val (.int p1), .val (.int p2), .val (.int p3), .val (.int p4), .val (.int p5), .val (.int p6), .val (.ref b1), .unset, .unset, .unset, .unset, .unset] [(.int r2), (.int (0 : Int32)), (.ref b1)])) rfl rfl (hb hby at_12)
  have id4 : nar .byte r2 = r2 := hr2
  rw [id4] at W4
  have V4 : Arv Z h4 b1 k1 .byte (5 : Int32) [(.int r2), (.int (0 : Int32)), (.int (0 : Int32)), (.int (0 : Int32)), (.int (0 : Int32))] (.int (0 : Int32)) := Arv.set Ar3 qa3 Sa3 Ma3 Ha3 Ga3 (own_fit id4) W4 0 rfl (Nat.le_of_ble_eq_true rfl)
  have N4 := Fr.snoc X4 N2 g_b1
  have Z4 : n0 ≤ h4.size := Nat.le_trans Z1 (Keep.of_wr W4).1
  refine own_st st4 ?_
  show own_Go p e below K (T4.setTop (mkF m 13 #[.val (.int p1), .val (.int p2), .val (.int p3), .val (.int p4), .val (.int p5), .val (.int p6), .val (.ref b1), .unset, .unset, .unset, .unset, .unset] []))
  refine own_st (fun t k => XS.aload X4.here hx rfl (hb hby at_13) rfl rfl k) ?_
  show own_Go p e below K (T4.setTop (mkF m 15 #[.val (.int p1), .val (.int p2), .val (.int p3), .val (.int p4), .val (.int p5), .val (.int p6), .val (.ref b1), .unset, .unset, .unset, .unset, .unset] [(.ref b1)]))
  refine own_st (fun t k => XS.iconst X4.here hx rfl (hb hby at_15) k) ?_
  show own_Go p e below K (T4.setTop (mkF m 16 #[.val (.int p1), .val (.int p2), .val (.int p3), .val (.int p4), .val (.int p5), .val (.int p6), .val (.ref b1), .unset, .unset, .unset, .unset, .unset] [(.int (1 : Int32)), (.ref b1)]))
  refine own_st (fun t k => XS.iloadN X4.here hx rfl (hb hby at_16) rfl k) ?_
  show own_Go p e below K (T4.setTop (mkF m 17 #[.val (.int p1), .val (.int p2), .val (.int p3), .val (.int p4), .val (.int p5), .val (.int p6), .val (.ref b1), .unset, .unset, .unset, .unset, .unset] [(.int p2), (.int (1 : Int32)), (.ref b1)]))
  obtain ⟨_, _, ⟨T5, L5, k5, n5⟩, -, X5, ⟨Lc5, hQ5, l5, y5, z5⟩, st5⟩ := Jvm.LawKit.callS X4 hx (y := (⟨"org/ranktide/formats/LineReaderBlankPinLaw", "pick", "(I)B"⟩ : MethodName)) hown (mvT hZ (hw _ (List.mem_of_getElem? (i := 1) rfl))) (mvT hZ (hw _ (List.mem_of_getElem? (i := 2) rfl))) (mvT hZ (hw _ (List.mem_of_getElem? (i := 3) rfl))) (mvT hZ (hw _ (List.mem_of_getElem? (i := 4) rfl))) (by decide) (backOf (W := 2) (rm1 l Z a0 hw [] p2 h4 n0 Z4) hZ (hw _ (List.mem_of_getElem? (i := 4) rfl)) (hw _ (List.mem_of_getElem? (i := 3) rfl)) (by decide) (by decide)) (g := (mkF m 17 #[.val (.int p1), .val (.int p2), .val (.int p3), .val (.int p4), .val (.int p5), .val (.int p6), .val (.ref b1), .unset, .unset, .unset, .unset, .unset] [(.int p2), (.int (1 : Int32)), (.ref b1)])) rfl (by rw [hml]; rfl) (argsL := [(.int p2)]) (rest := [(.int (1 : Int32)), (.ref b1)]) (lenOf pd_0_0 rfl) rfl (by show 2 * 0 + _ ≤ _; exact Nat.le_of_eq rfl) (hb hby at_17) (fun _ _ => ⟨rfl, e4, (by decide : 1 + 0 ≤ _), (by decide : 5 + 0 ≤ _)⟩)
  dsimp only [Pt.U, Pt.locs, Pt.cells, Pt.slots] at X5 l5 y5 z5 st5 hQ5
  subst l5 y5 z5
  obtain ⟨r5, rfl, hr5, N5q, e5⟩ := hQ5
  have N5 := Fr.app N4 N5q
  refine own_st st5 ?_
  show own_Go p e below K (T5.setTop (mkF m 20 #[.val (.int p1), .val (.int p2), .val (.int p3), .val (.int p4), .val (.int p5), .val (.int p6), .val (.ref b1), .unset, .unset, .unset, .unset, .unset] [(.int r5), (.int (1 : Int32)), (.ref b1)]))
  obtain ⟨cl6, Ar6, qa6, Sa6, Ma6, Ha6, Ga6⟩ := id V4
  have hin6 : ¬ ((1 : Int32) < 0 ∨ cl6.slots.size ≤ ((1 : Int32)).toNatClampNeg) := inb_of Sa6 ⟨by decide, by decide⟩
  obtain ⟨T7, h7, X7, e7, W7, st7⟩ := stB X5 hx hZ e5 Ar6 (j := (1 : Int32)) hin6 (g := (mkF m 20 #[.val (.int p1), .val (.int p2), .val (.int p3), .val (.int p4), .val (.int p5), .val (.int p6), .val (.ref b1), .unset, .unset, .unset, .unset, .unset] [(.int r5), (.int (1 : Int32)), (.ref b1)])) rfl rfl (hb hby at_20)
  have id7 : nar .byte r5 = r5 := hr5
  rw [id7] at W7
  have V7 : Arv Z h7 b1 k1 .byte (5 : Int32) [(.int r2), (.int r5), (.int (0 : Int32)), (.int (0 : Int32)), (.int (0 : Int32))] (.int (0 : Int32)) := Arv.set Ar6 qa6 Sa6 Ma6 Ha6 Ga6 (own_fit id7) W7 1 rfl (Nat.le_of_ble_eq_true rfl)
  have N7 := Fr.snoc X7 N5 g_b1
  have Z7 : n0 ≤ h7.size := Nat.le_trans Z4 (Keep.of_wr W7).1
  refine own_st st7 ?_
  show own_Go p e below K (T7.setTop (mkF m 21 #[.val (.int p1), .val (.int p2), .val (.int p3), .val (.int p4), .val (.int p5), .val (.int p6), .val (.ref b1), .unset, .unset, .unset, .unset, .unset] []))
  refine own_st (fun t k => XS.aload X7.here hx rfl (hb hby at_21) rfl rfl k) ?_
  show own_Go p e below K (T7.setTop (mkF m 23 #[.val (.int p1), .val (.int p2), .val (.int p3), .val (.int p4), .val (.int p5), .val (.int p6), .val (.ref b1), .unset, .unset, .unset, .unset, .unset] [(.ref b1)]))
  refine own_st (fun t k => XS.iconst X7.here hx rfl (hb hby at_23) k) ?_
  show own_Go p e below K (T7.setTop (mkF m 24 #[.val (.int p1), .val (.int p2), .val (.int p3), .val (.int p4), .val (.int p5), .val (.int p6), .val (.ref b1), .unset, .unset, .unset, .unset, .unset] [(.int (2 : Int32)), (.ref b1)]))
  refine own_st (fun t k => XS.iloadN X7.here hx rfl (hb hby at_24) rfl k) ?_
  show own_Go p e below K (T7.setTop (mkF m 25 #[.val (.int p1), .val (.int p2), .val (.int p3), .val (.int p4), .val (.int p5), .val (.int p6), .val (.ref b1), .unset, .unset, .unset, .unset, .unset] [(.int p3), (.int (2 : Int32)), (.ref b1)]))
  obtain ⟨_, _, ⟨T8, L8, k8, n8⟩, -, X8, ⟨Lc8, hQ8, l8, y8, z8⟩, st8⟩ := Jvm.LawKit.callS X7 hx (y := (⟨"org/ranktide/formats/LineReaderBlankPinLaw", "pick", "(I)B"⟩ : MethodName)) hown (mvT hZ (hw _ (List.mem_of_getElem? (i := 1) rfl))) (mvT hZ (hw _ (List.mem_of_getElem? (i := 2) rfl))) (mvT hZ (hw _ (List.mem_of_getElem? (i := 3) rfl))) (mvT hZ (hw _ (List.mem_of_getElem? (i := 4) rfl))) (by decide) (backOf (W := 2) (rm1 l Z a0 hw [] p3 h7 n0 Z7) hZ (hw _ (List.mem_of_getElem? (i := 4) rfl)) (hw _ (List.mem_of_getElem? (i := 3) rfl)) (by decide) (by decide)) (g := (mkF m 25 #[.val (.int p1), .val (.int p2), .val (.int p3), .val (.int p4), .val (.int p5), .val (.int p6), .val (.ref b1), .unset, .unset, .unset, .unset, .unset] [(.int p3), (.int (2 : Int32)), (.ref b1)])) rfl (by rw [hml]; rfl) (argsL := [(.int p3)]) (rest := [(.int (2 : Int32)), (.ref b1)]) (lenOf pd_0_0 rfl) rfl (by show 2 * 0 + _ ≤ _; exact Nat.le_of_eq rfl) (hb hby at_25) (fun _ _ => ⟨rfl, e7, (by decide : 1 + 0 ≤ _), (by decide : 5 + 0 ≤ _)⟩)
  dsimp only [Pt.U, Pt.locs, Pt.cells, Pt.slots] at X8 l8 y8 z8 st8 hQ8
  subst l8 y8 z8
  obtain ⟨r8, rfl, hr8, N8q, e8⟩ := hQ8
  have N8 := Fr.app N7 N8q
  refine own_st st8 ?_
  show own_Go p e below K (T8.setTop (mkF m 28 #[.val (.int p1), .val (.int p2), .val (.int p3), .val (.int p4), .val (.int p5), .val (.int p6), .val (.ref b1), .unset, .unset, .unset, .unset, .unset] [(.int r8), (.int (2 : Int32)), (.ref b1)]))
  obtain ⟨cl9, Ar9, qa9, Sa9, Ma9, Ha9, Ga9⟩ := id V7
  have hin9 : ¬ ((2 : Int32) < 0 ∨ cl9.slots.size ≤ ((2 : Int32)).toNatClampNeg) := inb_of Sa9 ⟨by decide, by decide⟩
  obtain ⟨T10, h10, X10, e10, W10, st10⟩ := stB X8 hx hZ e8 Ar9 (j := (2 : Int32)) hin9 (g := (mkF m 28 #[.val (.int p1), .val (.int p2), .val (.int p3), .val (.int p4), .val (.int p5), .val (.int p6), .val (.ref b1), .unset, .unset, .unset, .unset, .unset] [(.int r8), (.int (2 : Int32)), (.ref b1)])) rfl rfl (hb hby at_28)
  have id10 : nar .byte r8 = r8 := hr8
  rw [id10] at W10
  have V10 : Arv Z h10 b1 k1 .byte (5 : Int32) [(.int r2), (.int r5), (.int r8), (.int (0 : Int32)), (.int (0 : Int32))] (.int (0 : Int32)) := Arv.set Ar9 qa9 Sa9 Ma9 Ha9 Ga9 (own_fit id10) W10 2 rfl (Nat.le_of_ble_eq_true rfl)
  have N10 := Fr.snoc X10 N8 g_b1
  have Z10 : n0 ≤ h10.size := Nat.le_trans Z7 (Keep.of_wr W10).1
  refine own_st st10 ?_
  show own_Go p e below K (T10.setTop (mkF m 29 #[.val (.int p1), .val (.int p2), .val (.int p3), .val (.int p4), .val (.int p5), .val (.int p6), .val (.ref b1), .unset, .unset, .unset, .unset, .unset] []))
  refine own_st (fun t k => XS.aload X10.here hx rfl (hb hby at_29) rfl rfl k) ?_
  show own_Go p e below K (T10.setTop (mkF m 31 #[.val (.int p1), .val (.int p2), .val (.int p3), .val (.int p4), .val (.int p5), .val (.int p6), .val (.ref b1), .unset, .unset, .unset, .unset, .unset] [(.ref b1)]))
  refine own_st (fun t k => XS.iconst X10.here hx rfl (hb hby at_31) k) ?_
  show own_Go p e below K (T10.setTop (mkF m 32 #[.val (.int p1), .val (.int p2), .val (.int p3), .val (.int p4), .val (.int p5), .val (.int p6), .val (.ref b1), .unset, .unset, .unset, .unset, .unset] [(.int (3 : Int32)), (.ref b1)]))
  refine own_st (fun t k => XS.iloadN X10.here hx rfl (hb hby at_32) rfl k) ?_
  show own_Go p e below K (T10.setTop (mkF m 33 #[.val (.int p1), .val (.int p2), .val (.int p3), .val (.int p4), .val (.int p5), .val (.int p6), .val (.ref b1), .unset, .unset, .unset, .unset, .unset] [(.int p4), (.int (3 : Int32)), (.ref b1)]))
  obtain ⟨_, _, ⟨T11, L11, k11, n11⟩, -, X11, ⟨Lc11, hQ11, l11, y11, z11⟩, st11⟩ := Jvm.LawKit.callS X10 hx (y := (⟨"org/ranktide/formats/LineReaderBlankPinLaw", "pick", "(I)B"⟩ : MethodName)) hown (mvT hZ (hw _ (List.mem_of_getElem? (i := 1) rfl))) (mvT hZ (hw _ (List.mem_of_getElem? (i := 2) rfl))) (mvT hZ (hw _ (List.mem_of_getElem? (i := 3) rfl))) (mvT hZ (hw _ (List.mem_of_getElem? (i := 4) rfl))) (by decide) (backOf (W := 2) (rm1 l Z a0 hw [] p4 h10 n0 Z10) hZ (hw _ (List.mem_of_getElem? (i := 4) rfl)) (hw _ (List.mem_of_getElem? (i := 3) rfl)) (by decide) (by decide)) (g := (mkF m 33 #[.val (.int p1), .val (.int p2), .val (.int p3), .val (.int p4), .val (.int p5), .val (.int p6), .val (.ref b1), .unset, .unset, .unset, .unset, .unset] [(.int p4), (.int (3 : Int32)), (.ref b1)])) rfl (by rw [hml]; rfl) (argsL := [(.int p4)]) (rest := [(.int (3 : Int32)), (.ref b1)]) (lenOf pd_0_0 rfl) rfl (by show 2 * 0 + _ ≤ _; exact Nat.le_of_eq rfl) (hb hby at_33) (fun _ _ => ⟨rfl, e10, (by decide : 1 + 0 ≤ _), (by decide : 5 + 0 ≤ _)⟩)
  dsimp only [Pt.U, Pt.locs, Pt.cells, Pt.slots] at X11 l11 y11 z11 st11 hQ11
  subst l11 y11 z11
  obtain ⟨r11, rfl, hr11, N11q, e11⟩ := hQ11
  have N11 := Fr.app N10 N11q
  refine own_st st11 ?_
  show own_Go p e below K (T11.setTop (mkF m 36 #[.val (.int p1), .val (.int p2), .val (.int p3), .val (.int p4), .val (.int p5), .val (.int p6), .val (.ref b1), .unset, .unset, .unset, .unset, .unset] [(.int r11), (.int (3 : Int32)), (.ref b1)]))
  obtain ⟨cl12, Ar12, qa12, Sa12, Ma12, Ha12, Ga12⟩ := id V10
  have hin12 : ¬ ((3 : Int32) < 0 ∨ cl12.slots.size ≤ ((3 : Int32)).toNatClampNeg) := inb_of Sa12 ⟨by decide, by decide⟩
  obtain ⟨T13, h13, X13, e13, W13, st13⟩ := stB X11 hx hZ e11 Ar12 (j := (3 : Int32)) hin12 (g := (mkF m 36 #[.val (.int p1), .val (.int p2), .val (.int p3), .val (.int p4), .val (.int p5), .val (.int p6), .val (.ref b1), .unset, .unset, .unset, .unset, .unset] [(.int r11), (.int (3 : Int32)), (.ref b1)])) rfl rfl (hb hby at_36)
  have id13 : nar .byte r11 = r11 := hr11
  rw [id13] at W13
  have V13 : Arv Z h13 b1 k1 .byte (5 : Int32) [(.int r2), (.int r5), (.int r8), (.int r11), (.int (0 : Int32))] (.int (0 : Int32)) := Arv.set Ar12 qa12 Sa12 Ma12 Ha12 Ga12 (own_fit id13) W13 3 rfl (Nat.le_of_ble_eq_true rfl)
  have N13 := Fr.snoc X13 N11 g_b1
  have Z13 : n0 ≤ h13.size := Nat.le_trans Z10 (Keep.of_wr W13).1
  refine own_st st13 ?_
  show own_Go p e below K (T13.setTop (mkF m 37 #[.val (.int p1), .val (.int p2), .val (.int p3), .val (.int p4), .val (.int p5), .val (.int p6), .val (.ref b1), .unset, .unset, .unset, .unset, .unset] []))
  refine own_st (fun t k => XS.aload X13.here hx rfl (hb hby at_37) rfl rfl k) ?_
  show own_Go p e below K (T13.setTop (mkF m 39 #[.val (.int p1), .val (.int p2), .val (.int p3), .val (.int p4), .val (.int p5), .val (.int p6), .val (.ref b1), .unset, .unset, .unset, .unset, .unset] [(.ref b1)]))
  refine own_st (fun t k => XS.iconst X13.here hx rfl (hb hby at_39) k) ?_
  show own_Go p e below K (T13.setTop (mkF m 40 #[.val (.int p1), .val (.int p2), .val (.int p3), .val (.int p4), .val (.int p5), .val (.int p6), .val (.ref b1), .unset, .unset, .unset, .unset, .unset] [(.int (4 : Int32)), (.ref b1)]))
  refine own_st (fun t k => XS.iload X13.here hx rfl (hb hby at_40) rfl k) ?_
  show own_Go p e below K (T13.setTop (mkF m 42 #[.val (.int p1), .val (.int p2), .val (.int p3), .val (.int p4), .val (.int p5), .val (.int p6), .val (.ref b1), .unset, .unset, .unset, .unset, .unset] [(.int p5), (.int (4 : Int32)), (.ref b1)]))
  obtain ⟨_, _, ⟨T14, L14, k14, n14⟩, -, X14, ⟨Lc14, hQ14, l14, y14, z14⟩, st14⟩ := Jvm.LawKit.callS X13 hx (y := (⟨"org/ranktide/formats/LineReaderBlankPinLaw", "pick", "(I)B"⟩ : MethodName)) hown (mvT hZ (hw _ (List.mem_of_getElem? (i := 1) rfl))) (mvT hZ (hw _ (List.mem_of_getElem? (i := 2) rfl))) (mvT hZ (hw _ (List.mem_of_getElem? (i := 3) rfl))) (mvT hZ (hw _ (List.mem_of_getElem? (i := 4) rfl))) (by decide) (backOf (W := 2) (rm1 l Z a0 hw [] p5 h13 n0 Z13) hZ (hw _ (List.mem_of_getElem? (i := 4) rfl)) (hw _ (List.mem_of_getElem? (i := 3) rfl)) (by decide) (by decide)) (g := (mkF m 42 #[.val (.int p1), .val (.int p2), .val (.int p3), .val (.int p4), .val (.int p5), .val (.int p6), .val (.ref b1), .unset, .unset, .unset, .unset, .unset] [(.int p5), (.int (4 : Int32)), (.ref b1)])) rfl (by rw [hml]; rfl) (argsL := [(.int p5)]) (rest := [(.int (4 : Int32)), (.ref b1)]) (lenOf pd_0_0 rfl) rfl (by show 2 * 0 + _ ≤ _; exact Nat.le_of_eq rfl) (hb hby at_42) (fun _ _ => ⟨rfl, e13, (by decide : 1 + 0 ≤ _), (by decide : 5 + 0 ≤ _)⟩)
  dsimp only [Pt.U, Pt.locs, Pt.cells, Pt.slots] at X14 l14 y14 z14 st14 hQ14
  subst l14 y14 z14
  obtain ⟨r14, rfl, hr14, N14q, e14⟩ := hQ14
  have N14 := Fr.app N13 N14q
  refine own_st st14 ?_
  show own_Go p e below K (T14.setTop (mkF m 45 #[.val (.int p1), .val (.int p2), .val (.int p3), .val (.int p4), .val (.int p5), .val (.int p6), .val (.ref b1), .unset, .unset, .unset, .unset, .unset] [(.int r14), (.int (4 : Int32)), (.ref b1)]))
  obtain ⟨cl15, Ar15, qa15, Sa15, Ma15, Ha15, Ga15⟩ := id V13
  have hin15 : ¬ ((4 : Int32) < 0 ∨ cl15.slots.size ≤ ((4 : Int32)).toNatClampNeg) := inb_of Sa15 ⟨by decide, by decide⟩
  obtain ⟨T16, h16, X16, e16, W16, st16⟩ := stB X14 hx hZ e14 Ar15 (j := (4 : Int32)) hin15 (g := (mkF m 45 #[.val (.int p1), .val (.int p2), .val (.int p3), .val (.int p4), .val (.int p5), .val (.int p6), .val (.ref b1), .unset, .unset, .unset, .unset, .unset] [(.int r14), (.int (4 : Int32)), (.ref b1)])) rfl rfl (hb hby at_45)
  have id16 : nar .byte r14 = r14 := hr14
  rw [id16] at W16
  have V16 : Arv Z h16 b1 k1 .byte (5 : Int32) [(.int r2), (.int r5), (.int r8), (.int r11), (.int r14)] (.int (0 : Int32)) := Arv.set Ar15 qa15 Sa15 Ma15 Ha15 Ga15 (own_fit id16) W16 4 rfl (Nat.le_of_ble_eq_true rfl)
  have N16 := Fr.snoc X16 N14 g_b1
  have Z16 : n0 ≤ h16.size := Nat.le_trans Z13 (Keep.of_wr W16).1
  refine own_st st16 ?_
  show own_Go p e below K (T16.setTop (mkF m 46 #[.val (.int p1), .val (.int p2), .val (.int p3), .val (.int p4), .val (.int p5), .val (.int p6), .val (.ref b1), .unset, .unset, .unset, .unset, .unset] []))
  obtain ⟨bs, hbs⟩ : ∃ z : List Int32, z = [r2, r5, r8, r11, r14] := ⟨_, rfl⟩
  have V17 : Arv Z h16 b1 k1 .byte (5 : Int32) (bs.map Value.int) (.int (0 : Int32)) := by rw [hbs]; exact V16
  refine own_st (fun t k => XS.iload X16.here hx rfl (hb hby at_46) rfl k) ?_
  show own_Go p e below K (T16.setTop (mkF m 48 #[.val (.int p1), .val (.int p2), .val (.int p3), .val (.int p4), .val (.int p5), .val (.int p6), .val (.ref b1), .unset, .unset, .unset, .unset, .unset] [(.int p6)]))
  refine own_st (fun t k => XS.bipush X16.here hx rfl (hb hby at_48) k) ?_
  show own_Go p e below K (T16.setTop (mkF m 50 #[.val (.int p1), .val (.int p2), .val (.int p3), .val (.int p4), .val (.int p5), .val (.int p6), .val (.ref b1), .unset, .unset, .unset, .unset, .unset] [(.int (7 : Int32)), (.int p6)]))
  refine own_st (fun t k => XS.iand X16.here hx rfl (hb hby at_50) rfl k) ?_
  show own_Go p e below K (T16.setTop (mkF m 51 #[.val (.int p1), .val (.int p2), .val (.int p3), .val (.int p4), .val (.int p5), .val (.int p6), .val (.ref b1), .unset, .unset, .unset, .unset, .unset] [(.int (p6 &&& (7 : Int32)))]))
  refine own_st (fun t k => XS.bipush X16.here hx rfl (hb hby at_51) k) ?_
  show own_Go p e below K (T16.setTop (mkF m 53 #[.val (.int p1), .val (.int p2), .val (.int p3), .val (.int p4), .val (.int p5), .val (.int p6), .val (.ref b1), .unset, .unset, .unset, .unset, .unset] [(.int (6 : Int32)), (.int (p6 &&& (7 : Int32)))]))
  refine own_st (fun t k => iremM X16 hx rfl (hb hby at_53) rfl (by decide) k) ?_
  show own_Go p e below K (T16.setTop (mkF m 54 #[.val (.int p1), .val (.int p2), .val (.int p3), .val (.int p4), .val (.int p5), .val (.int p6), .val (.ref b1), .unset, .unset, .unset, .unset, .unset] [(.int ((p6 &&& (7 : Int32)) % (6 : Int32)))]))
  generalize hua : ((p6 &&& (7 : Int32)) % (6 : Int32)) = ua
  show own_Go p e below K (T16.setTop (mkF m 54 #[.val (.int p1), .val (.int p2), .val (.int p3), .val (.int p4), .val (.int p5), .val (.int p6), .val (.ref b1), .unset, .unset, .unset, .unset, .unset] [(.int ua)]))
  have Ba := own_rem6 hua
  refine own_st (fun t k => XS.istore X16.here hx rfl (hb hby at_54) rfl (l' := #[.val (.int p1), .val (.int p2), .val (.int p3), .val (.int p4), .val (.int p5), .val (.int p6), .val (.ref b1), .val (.int ua), .unset, .unset, .unset, .unset]) rfl k) ?_
  show own_Go p e below K (T16.setTop (mkF m 56 #[.val (.int p1), .val (.int p2), .val (.int p3), .val (.int p4), .val (.int p5), .val (.int p6), .val (.ref b1), .val (.int ua), .unset, .unset, .unset, .unset] []))
  refine own_st (fun t k => XS.iload X16.here hx rfl (hb hby at_56) rfl k) ?_
  show own_Go p e below K (T16.setTop (mkF m 58 #[.val (.int p1), .val (.int p2), .val (.int p3), .val (.int p4), .val (.int p5), .val (.int p6), .val (.ref b1), .val (.int ua), .unset, .unset, .unset, .unset] [(.int p6)]))
  refine own_st (fun t k => XS.iconst X16.here hx rfl (hb hby at_58) k) ?_
  show own_Go p e below K (T16.setTop (mkF m 59 #[.val (.int p1), .val (.int p2), .val (.int p3), .val (.int p4), .val (.int p5), .val (.int p6), .val (.ref b1), .val (.int ua), .unset, .unset, .unset, .unset] [(.int (3 : Int32)), (.int p6)]))
  refine own_st (fun t k => XS.iushr X16.here hx rfl (hb hby at_59) rfl k) ?_
  show own_Go p e below K (T16.setTop (mkF m 60 #[.val (.int p1), .val (.int p2), .val (.int p3), .val (.int p4), .val (.int p5), .val (.int p6), .val (.ref b1), .val (.int ua), .unset, .unset, .unset, .unset] [(.int ((p6.toUInt32 >>> ((3 : Int32) &&& 31).toUInt32).toInt32))]))
  refine own_st (fun t k => XS.bipush X16.here hx rfl (hb hby at_60) k) ?_
  show own_Go p e below K (T16.setTop (mkF m 62 #[.val (.int p1), .val (.int p2), .val (.int p3), .val (.int p4), .val (.int p5), .val (.int p6), .val (.ref b1), .val (.int ua), .unset, .unset, .unset, .unset] [(.int (7 : Int32)), (.int ((p6.toUInt32 >>> ((3 : Int32) &&& 31).toUInt32).toInt32))]))
  refine own_st (fun t k => XS.iand X16.here hx rfl (hb hby at_62) rfl k) ?_
  show own_Go p e below K (T16.setTop (mkF m 63 #[.val (.int p1), .val (.int p2), .val (.int p3), .val (.int p4), .val (.int p5), .val (.int p6), .val (.ref b1), .val (.int ua), .unset, .unset, .unset, .unset] [(.int (((p6.toUInt32 >>> ((3 : Int32) &&& 31).toUInt32).toInt32) &&& (7 : Int32)))]))
  refine own_st (fun t k => XS.bipush X16.here hx rfl (hb hby at_63) k) ?_
  show own_Go p e below K (T16.setTop (mkF m 65 #[.val (.int p1), .val (.int p2), .val (.int p3), .val (.int p4), .val (.int p5), .val (.int p6), .val (.ref b1), .val (.int ua), .unset, .unset, .unset, .unset] [(.int (6 : Int32)), (.int (((p6.toUInt32 >>> ((3 : Int32) &&& 31).toUInt32).toInt32) &&& (7 : Int32)))]))
  refine own_st (fun t k => iremM X16 hx rfl (hb hby at_65) rfl (by decide) k) ?_
  show own_Go p e below K (T16.setTop (mkF m 66 #[.val (.int p1), .val (.int p2), .val (.int p3), .val (.int p4), .val (.int p5), .val (.int p6), .val (.ref b1), .val (.int ua), .unset, .unset, .unset, .unset] [(.int ((((p6.toUInt32 >>> ((3 : Int32) &&& 31).toUInt32).toInt32) &&& (7 : Int32)) % (6 : Int32)))]))
  generalize hub : ((((p6.toUInt32 >>> ((3 : Int32) &&& 31).toUInt32).toInt32) &&& (7 : Int32)) % (6 : Int32)) = ub
  show own_Go p e below K (T16.setTop (mkF m 66 #[.val (.int p1), .val (.int p2), .val (.int p3), .val (.int p4), .val (.int p5), .val (.int p6), .val (.ref b1), .val (.int ua), .unset, .unset, .unset, .unset] [(.int ub)]))
  have Bb := own_rem6 hub
  refine own_st (fun t k => XS.istore X16.here hx rfl (hb hby at_66) rfl (l' := #[.val (.int p1), .val (.int p2), .val (.int p3), .val (.int p4), .val (.int p5), .val (.int p6), .val (.ref b1), .val (.int ua), .val (.int ub), .unset, .unset, .unset]) rfl k) ?_
  show own_Go p e below K (T16.setTop (mkF m 68 #[.val (.int p1), .val (.int p2), .val (.int p3), .val (.int p4), .val (.int p5), .val (.int p6), .val (.ref b1), .val (.int ua), .val (.int ub), .unset, .unset, .unset] []))
  refine own_st (fun t k => XS.iload X16.here hx rfl (hb hby at_68) rfl k) ?_
  show own_Go p e below K (T16.setTop (mkF m 70 #[.val (.int p1), .val (.int p2), .val (.int p3), .val (.int p4), .val (.int p5), .val (.int p6), .val (.ref b1), .val (.int ua), .val (.int ub), .unset, .unset, .unset] [(.int ua)]))
  refine own_st (fun t k => XS.iload X16.here hx rfl (hb hby at_70) rfl k) ?_
  show own_Go p e below K (T16.setTop (mkF m 72 #[.val (.int p1), .val (.int p2), .val (.int p3), .val (.int p4), .val (.int p5), .val (.int p6), .val (.ref b1), .val (.int ua), .val (.int ub), .unset, .unset, .unset] [(.int ub), (.int ua)]))
  obtain ⟨_, _, ⟨T18, L18, k18, n18⟩, -, X18, ⟨Lc18, hQ18, l18, y18, z18⟩, st18⟩ := Jvm.LawKit.callS X16 hx (y := (⟨"java/lang/Math", "min", "(II)I"⟩ : MethodName)) hown (mvT hZ (hw _ (List.mem_of_getElem? (i := 5) rfl))) (mvT hZ (hw _ (List.mem_of_getElem? (i := 6) rfl))) (mvT hZ (hw _ (List.mem_of_getElem? (i := 7) rfl))) (mvT hZ (hw _ (List.mem_of_getElem? (i := 8) rfl))) (by decide) (backOf (W := 0) (rm2 l Z a0 hw [] ua ub h16 n0 Z16) hZ (hw _ (List.mem_of_getElem? (i := 8) rfl)) (hw _ (List.mem_of_getElem? (i := 7) rfl)) (by decide) (by decide)) (g := (mkF m 72 #[.val (.int p1), .val (.int p2), .val (.int p3), .val (.int p4), .val (.int p5), .val (.int p6), .val (.ref b1), .val (.int ua), .val (.int ub), .unset, .unset, .unset] [(.int ub), (.int ua)])) rfl (by rw [hml]; rfl) (argsL := [(.int ua), (.int ub)]) (rest := []) (lenOf pd_0_1 rfl) rfl (by show 2 * 0 + _ ≤ _; exact Nat.le_of_eq rfl) (hb hby at_72) (fun _ _ => ⟨rfl, e16, (by decide : 1 + 0 ≤ _), (by decide : 5 + 0 ≤ _)⟩)
  dsimp only [Pt.U, Pt.locs, Pt.cells, Pt.slots] at X18 l18 y18 z18 st18 hQ18
  subst l18 y18 z18
  obtain ⟨r18, rfl, hr18, N18q, e18⟩ := hQ18
  have N18 := Fr.app N16 N18q
  refine own_st st18 ?_
  show own_Go p e below K (T18.setTop (mkF m 75 #[.val (.int p1), .val (.int p2), .val (.int p3), .val (.int p4), .val (.int p5), .val (.int p6), .val (.ref b1), .val (.int ua), .val (.int ub), .unset, .unset, .unset] [(.int r18)]))
  have Bf := own_two hr18 Ba Bb
  refine own_st (fun t k => XS.istore X18.here hx rfl (hb hby at_75) rfl (l' := #[.val (.int p1), .val (.int p2), .val (.int p3), .val (.int p4), .val (.int p5), .val (.int p6), .val (.ref b1), .val (.int ua), .val (.int ub), .val (.int r18), .unset, .unset]) rfl k) ?_
  show own_Go p e below K (T18.setTop (mkF m 77 #[.val (.int p1), .val (.int p2), .val (.int p3), .val (.int p4), .val (.int p5), .val (.int p6), .val (.ref b1), .val (.int ua), .val (.int ub), .val (.int r18), .unset, .unset] []))
  refine own_st (fun t k => XS.iload X18.here hx rfl (hb hby at_77) rfl k) ?_
  show own_Go p e below K (T18.setTop (mkF m 79 #[.val (.int p1), .val (.int p2), .val (.int p3), .val (.int p4), .val (.int p5), .val (.int p6), .val (.ref b1), .val (.int ua), .val (.int ub), .val (.int r18), .unset, .unset] [(.int ua)]))
  refine own_st (fun t k => XS.iload X18.here hx rfl (hb hby at_79) rfl k) ?_
  show own_Go p e below K (T18.setTop (mkF m 81 #[.val (.int p1), .val (.int p2), .val (.int p3), .val (.int p4), .val (.int p5), .val (.int p6), .val (.ref b1), .val (.int ua), .val (.int ub), .val (.int r18), .unset, .unset] [(.int ub), (.int ua)]))
  obtain ⟨_, _, ⟨T19, L19, k19, n19⟩, -, X19, ⟨Lc19, hQ19, l19, y19, z19⟩, st19⟩ := Jvm.LawKit.callS X18 hx (y := (⟨"java/lang/Math", "max", "(II)I"⟩ : MethodName)) hown (mvT hZ (hw _ (List.mem_of_getElem? (i := 9) rfl))) (mvT hZ (hw _ (List.mem_of_getElem? (i := 10) rfl))) (mvT hZ (hw _ (List.mem_of_getElem? (i := 7) rfl))) (mvT hZ (hw _ (List.mem_of_getElem? (i := 11) rfl))) (by decide) (backOf (W := 0) (rm3 l Z a0 hw [] ua ub h16 n0 Z16) hZ (hw _ (List.mem_of_getElem? (i := 11) rfl)) (hw _ (List.mem_of_getElem? (i := 7) rfl)) (by decide) (by decide)) (g := (mkF m 81 #[.val (.int p1), .val (.int p2), .val (.int p3), .val (.int p4), .val (.int p5), .val (.int p6), .val (.ref b1), .val (.int ua), .val (.int ub), .val (.int r18), .unset, .unset] [(.int ub), (.int ua)])) rfl (by rw [hml]; rfl) (argsL := [(.int ua), (.int ub)]) (rest := []) (lenOf pd_0_1 rfl) rfl (by show 2 * 0 + _ ≤ _; exact Nat.le_of_eq rfl) (hb hby at_81) (fun _ _ => ⟨rfl, e18, (by decide : 1 + 0 ≤ _), (by decide : 5 + 0 ≤ _)⟩)
  dsimp only [Pt.U, Pt.locs, Pt.cells, Pt.slots] at X19 l19 y19 z19 st19 hQ19
  subst l19 y19 z19
  obtain ⟨r19, rfl, hr19, N19q, e19⟩ := hQ19
  have N19 := Fr.app N18 N19q
  refine own_st st19 ?_
  show own_Go p e below K (T19.setTop (mkF m 84 #[.val (.int p1), .val (.int p2), .val (.int p3), .val (.int p4), .val (.int p5), .val (.int p6), .val (.ref b1), .val (.int ua), .val (.int ub), .val (.int r18), .unset, .unset] [(.int r19)]))
  have Bt := own_two hr19 Ba Bb
  refine own_st (fun t k => XS.istore X19.here hx rfl (hb hby at_84) rfl (l' := #[.val (.int p1), .val (.int p2), .val (.int p3), .val (.int p4), .val (.int p5), .val (.int p6), .val (.ref b1), .val (.int ua), .val (.int ub), .val (.int r18), .val (.int r19), .unset]) rfl k) ?_
  show own_Go p e below K (T19.setTop (mkF m 86 #[.val (.int p1), .val (.int p2), .val (.int p3), .val (.int p4), .val (.int p5), .val (.int p6), .val (.ref b1), .val (.int ua), .val (.int ub), .val (.int r18), .val (.int r19), .unset] []))
  have J156 : ∀ (T' : State) (locs' : List Loc) (X' : Stand p l e room_1 s m #[(.int p1), (.int p2), (.int p3), (.int p4), (.int p5), (.int p6)] below meth c T' locs' 1 5) (e' : T'.heap = h16) (N' : Fr n0 locs') (ex0 : Int32), (own_B (own_all bs r18 r19) ex0) → own_Go p e below K (T'.setTop (mkF m 156 #[.val (.int p1), .val (.int p2), .val (.int p3), .val (.int p4), .val (.int p5), .val (.int p6), .val (.ref b1), .val (.int ua), .val (.int ub), .val (.int r18), .val (.int r19), .unset] [(.int ex0)])) := by
    intro T20 locs20 X20 e20 N20 ex0 hj156
    refine own_st (fun t k => XS.istore X20.here hx rfl (hb hby at_156) rfl (l' := #[.val (.int p1), .val (.int p2), .val (.int p3), .val (.int p4), .val (.int p5), .val (.int p6), .val (.ref b1), .val (.int ua), .val (.int ub), .val (.int r18), .val (.int r19), .val (.int ex0)]) rfl k) ?_
    show own_Go p e below K (T20.setTop (mkF m 158 #[.val (.int p1), .val (.int p2), .val (.int p3), .val (.int p4), .val (.int p5), .val (.int p6), .val (.ref b1), .val (.int ua), .val (.int ub), .val (.int r18), .val (.int r19), .val (.int ex0)] []))
    refine own_st (fun t k => XS.aload X20.here hx rfl (hb hby at_158) rfl rfl k) ?_
    show own_Go p e below K (T20.setTop (mkF m 160 #[.val (.int p1), .val (.int p2), .val (.int p3), .val (.int p4), .val (.int p5), .val (.int p6), .val (.ref b1), .val (.int ua), .val (.int ub), .val (.int r18), .val (.int r19), .val (.int ex0)] [(.ref b1)]))
    refine own_st (fun t k => XS.iload X20.here hx rfl (hb hby at_160) rfl k) ?_
    show own_Go p e below K (T20.setTop (mkF m 162 #[.val (.int p1), .val (.int p2), .val (.int p3), .val (.int p4), .val (.int p5), .val (.int p6), .val (.ref b1), .val (.int ua), .val (.int ub), .val (.int r18), .val (.int r19), .val (.int ex0)] [(.int r18), (.ref b1)]))
    refine own_st (fun t k => XS.iload X20.here hx rfl (hb hby at_162) rfl k) ?_
    show own_Go p e below K (T20.setTop (mkF m 164 #[.val (.int p1), .val (.int p2), .val (.int p3), .val (.int p4), .val (.int p5), .val (.int p6), .val (.ref b1), .val (.int ua), .val (.int ub), .val (.int r18), .val (.int r19), .val (.int ex0)] [(.int r19), (.int r18), (.ref b1)]))
    obtain ⟨_, _, ⟨T21, L21, k21, n21⟩, -, X21, ⟨Lc21, hQ21, l21, y21, z21⟩, st21⟩ := Jvm.LawKit.callS X20 hx (y := (⟨"org/ranktide/formats/LineReader", "blank", "([BII)Z"⟩ : MethodName)) hown (mvT hZ (hw _ (List.mem_of_getElem? (i := 15) rfl))) (mvT hZ (hw _ (List.mem_of_getElem? (i := 16) rfl))) (mvT hZ (hw _ (List.mem_of_getElem? (i := 17) rfl))) (mvT hZ (hw _ (List.mem_of_getElem? (i := 18) rfl))) (by decide) (backOf (W := 0) (rm5 l Z a0 hw [] b1 r18 r19 (k1) ((5 : Int32)) (bs) h16 n0 Z16 V17 Bf.1 Bt.2) hZ (hw _ (List.mem_of_getElem? (i := 18) rfl)) (hw _ (List.mem_of_getElem? (i := 17) rfl)) (by decide) (by decide)) (g := (mkF m 164 #[.val (.int p1), .val (.int p2), .val (.int p3), .val (.int p4), .val (.int p5), .val (.int p6), .val (.ref b1), .val (.int ua), .val (.int ub), .val (.int r18), .val (.int r19), .val (.int ex0)] [(.int r19), (.int r18), (.ref b1)])) rfl (by rw [hml]; rfl) (argsL := [(.ref b1), (.int r18), (.int r19)]) (rest := []) (lenOf pd_0_3 rfl) rfl (by show 2 * 0 + _ ≤ _; exact Nat.le_of_eq rfl) (hb hby at_164) (fun _ _ => ⟨rfl, e20, (by decide : 1 + 0 ≤ _), (by decide : 5 + 0 ≤ _)⟩)
    dsimp only [Pt.U, Pt.locs, Pt.cells, Pt.slots] at X21 l21 y21 z21 st21 hQ21
    subst l21 y21 z21
    obtain ⟨r21, rfl, hr21, N21q, e21⟩ := hQ21
    have N21 := Fr.app N20 N21q
    refine own_st st21 ?_
    show own_Go p e below K (T21.setTop (mkF m 167 #[.val (.int p1), .val (.int p2), .val (.int p3), .val (.int p4), .val (.int p5), .val (.int p6), .val (.ref b1), .val (.int ua), .val (.int ub), .val (.int r18), .val (.int r19), .val (.int ex0)] [(.int r21)]))
    refine own_st (fun t k => XS.iload X21.here hx rfl (hb hby at_167) rfl k) ?_
    show own_Go p e below K (T21.setTop (mkF m 169 #[.val (.int p1), .val (.int p2), .val (.int p3), .val (.int p4), .val (.int p5), .val (.int p6), .val (.ref b1), .val (.int ua), .val (.int ub), .val (.int r18), .val (.int r19), .val (.int ex0)] [(.int ex0), (.int r21)]))
    refine own_st (fun t k => XS.icmpNo X21.here hx rfl (hb hby at_169) rfl (teq (own_B.same hr21 hj156 Iff.rfl : r21 = ex0)).2 k) ?_
    show own_Go p e below K (T21.setTop (mkF m 172 #[.val (.int p1), .val (.int p2), .val (.int p3), .val (.int p4), .val (.int p5), .val (.int p6), .val (.ref b1), .val (.int ua), .val (.int ub), .val (.int r18), .val (.int r19), .val (.int ex0)] []))
    refine own_st (fun t k => XS.iconst X21.here hx rfl (hb hby at_172) k) ?_
    show own_Go p e below K (T21.setTop (mkF m 173 #[.val (.int p1), .val (.int p2), .val (.int p3), .val (.int p4), .val (.int p5), .val (.int p6), .val (.ref b1), .val (.int ua), .val (.int ub), .val (.int r18), .val (.int r19), .val (.int ex0)] [(.int (1 : Int32))]))
    refine own_st (fun t k => XS.goto X21.here hx rfl (pc0 := 173) (pc' := 177) rfl (hb hby at_173) (by decide) (by decide) k) ?_
    show own_Go p e below K (T21.setTop (mkF m 177 #[.val (.int p1), .val (.int p2), .val (.int p3), .val (.int p4), .val (.int p5), .val (.int p6), .val (.ref b1), .val (.int ua), .val (.int ub), .val (.int r18), .val (.int r19), .val (.int ex0)] [(.int (1 : Int32))]))
    obtain ⟨fs, hr, hrun, hended, hW, hsame⟩ := X21.leave (v := some (.int (nar .boolean (1 : Int32)))) (fun h => by rw [Bd.returns] at h; cases h)
    refine ⟨_, retN X21 hx (t := .boolean) Bd.returns (by simp) (hb hby at_177) hr, fin _ _ _ hrun hended ?_ ⟨⟨_, rfl⟩, hW, hsame.mono (by decide) (by decide)⟩⟩
    show Q0 Z p1 p2 p3 p4 p5 p6 h0 n0 _ T21.heap _
    rw [e21]
    exact ⟨rfl, N21⟩
  refine own_st (fun t k => XS.aload X19.here hx rfl (hb hby at_86) rfl rfl k) ?_
  show own_Go p e below K (T19.setTop (mkF m 88 #[.val (.int p1), .val (.int p2), .val (.int p3), .val (.int p4), .val (.int p5), .val (.int p6), .val (.ref b1), .val (.int ua), .val (.int ub), .val (.int r18), .val (.int r19), .unset] [(.ref b1)]))
  refine own_st (fun t k => XS.iconst X19.here hx rfl (hb hby at_88) k) ?_
  show own_Go p e below K (T19.setTop (mkF m 89 #[.val (.int p1), .val (.int p2), .val (.int p3), .val (.int p4), .val (.int p5), .val (.int p6), .val (.ref b1), .val (.int ua), .val (.int ub), .val (.int r18), .val (.int r19), .unset] [(.int (0 : Int32)), (.ref b1)]))
  refine own_st (fun t k => XS.iload X19.here hx rfl (hb hby at_89) rfl k) ?_
  show own_Go p e below K (T19.setTop (mkF m 91 #[.val (.int p1), .val (.int p2), .val (.int p3), .val (.int p4), .val (.int p5), .val (.int p6), .val (.ref b1), .val (.int ua), .val (.int ub), .val (.int r18), .val (.int r19), .unset] [(.int r18), (.int (0 : Int32)), (.ref b1)]))
  refine own_st (fun t k => XS.iload X19.here hx rfl (hb hby at_91) rfl k) ?_
  show own_Go p e below K (T19.setTop (mkF m 93 #[.val (.int p1), .val (.int p2), .val (.int p3), .val (.int p4), .val (.int p5), .val (.int p6), .val (.ref b1), .val (.int ua), .val (.int ub), .val (.int r18), .val (.int r19), .unset] [(.int r19), (.int r18), (.int (0 : Int32)), (.ref b1)]))
  obtain ⟨_, _, ⟨T22, L22, k22, n22⟩, -, X22, ⟨Lc22, hQ22, l22, y22, z22⟩, st22⟩ := Jvm.LawKit.callS X19 hx (y := (⟨"org/ranktide/formats/LineReaderBlankPinLaw", "ok", "([BIII)Z"⟩ : MethodName)) hown (mvT hZ (hw _ (List.mem_of_getElem? (i := 12) rfl))) (mvT hZ (hw _ (List.mem_of_getElem? (i := 13) rfl))) (mvT hZ (hw _ (List.mem_of_getElem? (i := 3) rfl))) (mvT hZ (hw _ (List.mem_of_getElem? (i := 14) rfl))) (by decide) (backOf (W := 0) (rm4 l Z a0 hw [] b1 (0 : Int32) r18 r19 (k1) ((5 : Int32)) (bs) h16 n0 Z16 V17 (by decide) (by decide)) hZ (hw _ (List.mem_of_getElem? (i := 14) rfl)) (hw _ (List.mem_of_getElem? (i := 3) rfl)) (by decide) (by decide)) (g := (mkF m 93 #[.val (.int p1), .val (.int p2), .val (.int p3), .val (.int p4), .val (.int p5), .val (.int p6), .val (.ref b1), .val (.int ua), .val (.int ub), .val (.int r18), .val (.int r19), .unset] [(.int r19), (.int r18), (.int (0 : Int32)), (.ref b1)])) rfl (by rw [hml]; rfl) (argsL := [(.ref b1), (.int (0 : Int32)), (.int r18), (.int r19)]) (rest := []) (lenOf pd_0_2 rfl) rfl (by show 2 * 0 + _ ≤ _; exact Nat.le_of_eq rfl) (hb hby at_93) (fun _ _ => ⟨rfl, e19, (by decide : 1 + 0 ≤ _), (by decide : 5 + 0 ≤ _)⟩)
  dsimp only [Pt.U, Pt.locs, Pt.cells, Pt.slots] at X22 l22 y22 z22 st22 hQ22
  subst l22 y22 z22
  obtain ⟨r22, rfl, hr22, N22q, e22⟩ := hQ22
  have N22 := Fr.app N19 N22q
  refine own_st st22 ?_
  show own_Go p e below K (T22.setTop (mkF m 96 #[.val (.int p1), .val (.int p2), .val (.int p3), .val (.int p4), .val (.int p5), .val (.int p6), .val (.ref b1), .val (.int ua), .val (.int ub), .val (.int r18), .val (.int r19), .unset] [(.int r22)]))
  by_cases hc96 : r22 = (0 : Int32)
  · refine own_st (fun t k => XS.ifYes X22.here hx rfl (pc0 := 96) (pc' := 155) rfl (hb hby at_96) rfl ((if0 _ _).trans (teq hc96).1) (by decide) (by decide) k) ?_
    show own_Go p e below K (T22.setTop (mkF m 155 #[.val (.int p1), .val (.int p2), .val (.int p3), .val (.int p4), .val (.int p5), .val (.int p6), .val (.ref b1), .val (.int ua), .val (.int ub), .val (.int r18), .val (.int r19), .unset] []))
    refine own_st (fun t k => XS.iconst X22.here hx rfl (hb hby at_155) k) ?_
    show own_Go p e below K (T22.setTop (mkF m 156 #[.val (.int p1), .val (.int p2), .val (.int p3), .val (.int p4), .val (.int p5), .val (.int p6), .val (.ref b1), .val (.int ua), .val (.int ub), .val (.int r18), .val (.int r19), .unset] [(.int (0 : Int32))]))
    exact J156 T22 _ X22 e22 N22 ((0 : Int32)) (own_B.no rfl fun q => own_B.fails hr22 hc96 (q 0))
  refine own_st (fun t k => XS.ifNo X22.here hx rfl (hb hby at_96) rfl ((if0 _ _).trans (feq hc96).1) k) ?_
  show own_Go p e below K (T22.setTop (mkF m 99 #[.val (.int p1), .val (.int p2), .val (.int p3), .val (.int p4), .val (.int p5), .val (.int p6), .val (.ref b1), .val (.int ua), .val (.int ub), .val (.int r18), .val (.int r19), .unset] []))
  refine own_st (fun t k => XS.aload X22.here hx rfl (hb hby at_99) rfl rfl k) ?_
  show own_Go p e below K (T22.setTop (mkF m 101 #[.val (.int p1), .val (.int p2), .val (.int p3), .val (.int p4), .val (.int p5), .val (.int p6), .val (.ref b1), .val (.int ua), .val (.int ub), .val (.int r18), .val (.int r19), .unset] [(.ref b1)]))
  refine own_st (fun t k => XS.iconst X22.here hx rfl (hb hby at_101) k) ?_
  show own_Go p e below K (T22.setTop (mkF m 102 #[.val (.int p1), .val (.int p2), .val (.int p3), .val (.int p4), .val (.int p5), .val (.int p6), .val (.ref b1), .val (.int ua), .val (.int ub), .val (.int r18), .val (.int r19), .unset] [(.int (1 : Int32)), (.ref b1)]))
  refine own_st (fun t k => XS.iload X22.here hx rfl (hb hby at_102) rfl k) ?_
  show own_Go p e below K (T22.setTop (mkF m 104 #[.val (.int p1), .val (.int p2), .val (.int p3), .val (.int p4), .val (.int p5), .val (.int p6), .val (.ref b1), .val (.int ua), .val (.int ub), .val (.int r18), .val (.int r19), .unset] [(.int r18), (.int (1 : Int32)), (.ref b1)]))
  refine own_st (fun t k => XS.iload X22.here hx rfl (hb hby at_104) rfl k) ?_
  show own_Go p e below K (T22.setTop (mkF m 106 #[.val (.int p1), .val (.int p2), .val (.int p3), .val (.int p4), .val (.int p5), .val (.int p6), .val (.ref b1), .val (.int ua), .val (.int ub), .val (.int r18), .val (.int r19), .unset] [(.int r19), (.int r18), (.int (1 : Int32)), (.ref b1)]))
  obtain ⟨_, _, ⟨T23, L23, k23, n23⟩, -, X23, ⟨Lc23, hQ23, l23, y23, z23⟩, st23⟩ := Jvm.LawKit.callS X22 hx (y := (⟨"org/ranktide/formats/LineReaderBlankPinLaw", "ok", "([BIII)Z"⟩ : MethodName)) hown (mvT hZ (hw _ (List.mem_of_getElem? (i := 12) rfl))) (mvT hZ (hw _ (List.mem_of_getElem? (i := 13) rfl))) (mvT hZ (hw _ (List.mem_of_getElem? (i := 3) rfl))) (mvT hZ (hw _ (List.mem_of_getElem? (i := 14) rfl))) (by decide) (backOf (W := 0) (rm4 l Z a0 hw [] b1 (1 : Int32) r18 r19 (k1) ((5 : Int32)) (bs) h16 n0 Z16 V17 (by decide) (by decide)) hZ (hw _ (List.mem_of_getElem? (i := 14) rfl)) (hw _ (List.mem_of_getElem? (i := 3) rfl)) (by decide) (by decide)) (g := (mkF m 106 #[.val (.int p1), .val (.int p2), .val (.int p3), .val (.int p4), .val (.int p5), .val (.int p6), .val (.ref b1), .val (.int ua), .val (.int ub), .val (.int r18), .val (.int r19), .unset] [(.int r19), (.int r18), (.int (1 : Int32)), (.ref b1)])) rfl (by rw [hml]; rfl) (argsL := [(.ref b1), (.int (1 : Int32)), (.int r18), (.int r19)]) (rest := []) (lenOf pd_0_2 rfl) rfl (by show 2 * 0 + _ ≤ _; exact Nat.le_of_eq rfl) (hb hby at_106) (fun _ _ => ⟨rfl, e22, (by decide : 1 + 0 ≤ _), (by decide : 5 + 0 ≤ _)⟩)
  dsimp only [Pt.U, Pt.locs, Pt.cells, Pt.slots] at X23 l23 y23 z23 st23 hQ23
  subst l23 y23 z23
  obtain ⟨r23, rfl, hr23, N23q, e23⟩ := hQ23
  have N23 := Fr.app N22 N23q
  refine own_st st23 ?_
  show own_Go p e below K (T23.setTop (mkF m 109 #[.val (.int p1), .val (.int p2), .val (.int p3), .val (.int p4), .val (.int p5), .val (.int p6), .val (.ref b1), .val (.int ua), .val (.int ub), .val (.int r18), .val (.int r19), .unset] [(.int r23)]))
  by_cases hc109 : r23 = (0 : Int32)
  · refine own_st (fun t k => XS.ifYes X23.here hx rfl (pc0 := 109) (pc' := 155) rfl (hb hby at_109) rfl ((if0 _ _).trans (teq hc109).1) (by decide) (by decide) k) ?_
    show own_Go p e below K (T23.setTop (mkF m 155 #[.val (.int p1), .val (.int p2), .val (.int p3), .val (.int p4), .val (.int p5), .val (.int p6), .val (.ref b1), .val (.int ua), .val (.int ub), .val (.int r18), .val (.int r19), .unset] []))
    refine own_st (fun t k => XS.iconst X23.here hx rfl (hb hby at_155) k) ?_
    show own_Go p e below K (T23.setTop (mkF m 156 #[.val (.int p1), .val (.int p2), .val (.int p3), .val (.int p4), .val (.int p5), .val (.int p6), .val (.ref b1), .val (.int ua), .val (.int ub), .val (.int r18), .val (.int r19), .unset] [(.int (0 : Int32))]))
    exact J156 T23 _ X23 e23 N23 ((0 : Int32)) (own_B.no rfl fun q => own_B.fails hr23 hc109 (q 1))
  refine own_st (fun t k => XS.ifNo X23.here hx rfl (hb hby at_109) rfl ((if0 _ _).trans (feq hc109).1) k) ?_
  show own_Go p e below K (T23.setTop (mkF m 112 #[.val (.int p1), .val (.int p2), .val (.int p3), .val (.int p4), .val (.int p5), .val (.int p6), .val (.ref b1), .val (.int ua), .val (.int ub), .val (.int r18), .val (.int r19), .unset] []))
  refine own_st (fun t k => XS.aload X23.here hx rfl (hb hby at_112) rfl rfl k) ?_
  show own_Go p e below K (T23.setTop (mkF m 114 #[.val (.int p1), .val (.int p2), .val (.int p3), .val (.int p4), .val (.int p5), .val (.int p6), .val (.ref b1), .val (.int ua), .val (.int ub), .val (.int r18), .val (.int r19), .unset] [(.ref b1)]))
  refine own_st (fun t k => XS.iconst X23.here hx rfl (hb hby at_114) k) ?_
  show own_Go p e below K (T23.setTop (mkF m 115 #[.val (.int p1), .val (.int p2), .val (.int p3), .val (.int p4), .val (.int p5), .val (.int p6), .val (.ref b1), .val (.int ua), .val (.int ub), .val (.int r18), .val (.int r19), .unset] [(.int (2 : Int32)), (.ref b1)]))
  refine own_st (fun t k => XS.iload X23.here hx rfl (hb hby at_115) rfl k) ?_
  show own_Go p e below K (T23.setTop (mkF m 117 #[.val (.int p1), .val (.int p2), .val (.int p3), .val (.int p4), .val (.int p5), .val (.int p6), .val (.ref b1), .val (.int ua), .val (.int ub), .val (.int r18), .val (.int r19), .unset] [(.int r18), (.int (2 : Int32)), (.ref b1)]))
  refine own_st (fun t k => XS.iload X23.here hx rfl (hb hby at_117) rfl k) ?_
  show own_Go p e below K (T23.setTop (mkF m 119 #[.val (.int p1), .val (.int p2), .val (.int p3), .val (.int p4), .val (.int p5), .val (.int p6), .val (.ref b1), .val (.int ua), .val (.int ub), .val (.int r18), .val (.int r19), .unset] [(.int r19), (.int r18), (.int (2 : Int32)), (.ref b1)]))
  obtain ⟨_, _, ⟨T24, L24, k24, n24⟩, -, X24, ⟨Lc24, hQ24, l24, y24, z24⟩, st24⟩ := Jvm.LawKit.callS X23 hx (y := (⟨"org/ranktide/formats/LineReaderBlankPinLaw", "ok", "([BIII)Z"⟩ : MethodName)) hown (mvT hZ (hw _ (List.mem_of_getElem? (i := 12) rfl))) (mvT hZ (hw _ (List.mem_of_getElem? (i := 13) rfl))) (mvT hZ (hw _ (List.mem_of_getElem? (i := 3) rfl))) (mvT hZ (hw _ (List.mem_of_getElem? (i := 14) rfl))) (by decide) (backOf (W := 0) (rm4 l Z a0 hw [] b1 (2 : Int32) r18 r19 (k1) ((5 : Int32)) (bs) h16 n0 Z16 V17 (by decide) (by decide)) hZ (hw _ (List.mem_of_getElem? (i := 14) rfl)) (hw _ (List.mem_of_getElem? (i := 3) rfl)) (by decide) (by decide)) (g := (mkF m 119 #[.val (.int p1), .val (.int p2), .val (.int p3), .val (.int p4), .val (.int p5), .val (.int p6), .val (.ref b1), .val (.int ua), .val (.int ub), .val (.int r18), .val (.int r19), .unset] [(.int r19), (.int r18), (.int (2 : Int32)), (.ref b1)])) rfl (by rw [hml]; rfl) (argsL := [(.ref b1), (.int (2 : Int32)), (.int r18), (.int r19)]) (rest := []) (lenOf pd_0_2 rfl) rfl (by show 2 * 0 + _ ≤ _; exact Nat.le_of_eq rfl) (hb hby at_119) (fun _ _ => ⟨rfl, e23, (by decide : 1 + 0 ≤ _), (by decide : 5 + 0 ≤ _)⟩)
  dsimp only [Pt.U, Pt.locs, Pt.cells, Pt.slots] at X24 l24 y24 z24 st24 hQ24
  subst l24 y24 z24
  obtain ⟨r24, rfl, hr24, N24q, e24⟩ := hQ24
  have N24 := Fr.app N23 N24q
  refine own_st st24 ?_
  show own_Go p e below K (T24.setTop (mkF m 122 #[.val (.int p1), .val (.int p2), .val (.int p3), .val (.int p4), .val (.int p5), .val (.int p6), .val (.ref b1), .val (.int ua), .val (.int ub), .val (.int r18), .val (.int r19), .unset] [(.int r24)]))
  by_cases hc122 : r24 = (0 : Int32)
  · refine own_st (fun t k => XS.ifYes X24.here hx rfl (pc0 := 122) (pc' := 155) rfl (hb hby at_122) rfl ((if0 _ _).trans (teq hc122).1) (by decide) (by decide) k) ?_
    show own_Go p e below K (T24.setTop (mkF m 155 #[.val (.int p1), .val (.int p2), .val (.int p3), .val (.int p4), .val (.int p5), .val (.int p6), .val (.ref b1), .val (.int ua), .val (.int ub), .val (.int r18), .val (.int r19), .unset] []))
    refine own_st (fun t k => XS.iconst X24.here hx rfl (hb hby at_155) k) ?_
    show own_Go p e below K (T24.setTop (mkF m 156 #[.val (.int p1), .val (.int p2), .val (.int p3), .val (.int p4), .val (.int p5), .val (.int p6), .val (.ref b1), .val (.int ua), .val (.int ub), .val (.int r18), .val (.int r19), .unset] [(.int (0 : Int32))]))
    exact J156 T24 _ X24 e24 N24 ((0 : Int32)) (own_B.no rfl fun q => own_B.fails hr24 hc122 (q 2))
  refine own_st (fun t k => XS.ifNo X24.here hx rfl (hb hby at_122) rfl ((if0 _ _).trans (feq hc122).1) k) ?_
  show own_Go p e below K (T24.setTop (mkF m 125 #[.val (.int p1), .val (.int p2), .val (.int p3), .val (.int p4), .val (.int p5), .val (.int p6), .val (.ref b1), .val (.int ua), .val (.int ub), .val (.int r18), .val (.int r19), .unset] []))
  refine own_st (fun t k => XS.aload X24.here hx rfl (hb hby at_125) rfl rfl k) ?_
  show own_Go p e below K (T24.setTop (mkF m 127 #[.val (.int p1), .val (.int p2), .val (.int p3), .val (.int p4), .val (.int p5), .val (.int p6), .val (.ref b1), .val (.int ua), .val (.int ub), .val (.int r18), .val (.int r19), .unset] [(.ref b1)]))
  refine own_st (fun t k => XS.iconst X24.here hx rfl (hb hby at_127) k) ?_
  show own_Go p e below K (T24.setTop (mkF m 128 #[.val (.int p1), .val (.int p2), .val (.int p3), .val (.int p4), .val (.int p5), .val (.int p6), .val (.ref b1), .val (.int ua), .val (.int ub), .val (.int r18), .val (.int r19), .unset] [(.int (3 : Int32)), (.ref b1)]))
  refine own_st (fun t k => XS.iload X24.here hx rfl (hb hby at_128) rfl k) ?_
  show own_Go p e below K (T24.setTop (mkF m 130 #[.val (.int p1), .val (.int p2), .val (.int p3), .val (.int p4), .val (.int p5), .val (.int p6), .val (.ref b1), .val (.int ua), .val (.int ub), .val (.int r18), .val (.int r19), .unset] [(.int r18), (.int (3 : Int32)), (.ref b1)]))
  refine own_st (fun t k => XS.iload X24.here hx rfl (hb hby at_130) rfl k) ?_
  show own_Go p e below K (T24.setTop (mkF m 132 #[.val (.int p1), .val (.int p2), .val (.int p3), .val (.int p4), .val (.int p5), .val (.int p6), .val (.ref b1), .val (.int ua), .val (.int ub), .val (.int r18), .val (.int r19), .unset] [(.int r19), (.int r18), (.int (3 : Int32)), (.ref b1)]))
  obtain ⟨_, _, ⟨T25, L25, k25, n25⟩, -, X25, ⟨Lc25, hQ25, l25, y25, z25⟩, st25⟩ := Jvm.LawKit.callS X24 hx (y := (⟨"org/ranktide/formats/LineReaderBlankPinLaw", "ok", "([BIII)Z"⟩ : MethodName)) hown (mvT hZ (hw _ (List.mem_of_getElem? (i := 12) rfl))) (mvT hZ (hw _ (List.mem_of_getElem? (i := 13) rfl))) (mvT hZ (hw _ (List.mem_of_getElem? (i := 3) rfl))) (mvT hZ (hw _ (List.mem_of_getElem? (i := 14) rfl))) (by decide) (backOf (W := 0) (rm4 l Z a0 hw [] b1 (3 : Int32) r18 r19 (k1) ((5 : Int32)) (bs) h16 n0 Z16 V17 (by decide) (by decide)) hZ (hw _ (List.mem_of_getElem? (i := 14) rfl)) (hw _ (List.mem_of_getElem? (i := 3) rfl)) (by decide) (by decide)) (g := (mkF m 132 #[.val (.int p1), .val (.int p2), .val (.int p3), .val (.int p4), .val (.int p5), .val (.int p6), .val (.ref b1), .val (.int ua), .val (.int ub), .val (.int r18), .val (.int r19), .unset] [(.int r19), (.int r18), (.int (3 : Int32)), (.ref b1)])) rfl (by rw [hml]; rfl) (argsL := [(.ref b1), (.int (3 : Int32)), (.int r18), (.int r19)]) (rest := []) (lenOf pd_0_2 rfl) rfl (by show 2 * 0 + _ ≤ _; exact Nat.le_of_eq rfl) (hb hby at_132) (fun _ _ => ⟨rfl, e24, (by decide : 1 + 0 ≤ _), (by decide : 5 + 0 ≤ _)⟩)
  dsimp only [Pt.U, Pt.locs, Pt.cells, Pt.slots] at X25 l25 y25 z25 st25 hQ25
  subst l25 y25 z25
  obtain ⟨r25, rfl, hr25, N25q, e25⟩ := hQ25
  have N25 := Fr.app N24 N25q
  refine own_st st25 ?_
  show own_Go p e below K (T25.setTop (mkF m 135 #[.val (.int p1), .val (.int p2), .val (.int p3), .val (.int p4), .val (.int p5), .val (.int p6), .val (.ref b1), .val (.int ua), .val (.int ub), .val (.int r18), .val (.int r19), .unset] [(.int r25)]))
  by_cases hc135 : r25 = (0 : Int32)
  · refine own_st (fun t k => XS.ifYes X25.here hx rfl (pc0 := 135) (pc' := 155) rfl (hb hby at_135) rfl ((if0 _ _).trans (teq hc135).1) (by decide) (by decide) k) ?_
    show own_Go p e below K (T25.setTop (mkF m 155 #[.val (.int p1), .val (.int p2), .val (.int p3), .val (.int p4), .val (.int p5), .val (.int p6), .val (.ref b1), .val (.int ua), .val (.int ub), .val (.int r18), .val (.int r19), .unset] []))
    refine own_st (fun t k => XS.iconst X25.here hx rfl (hb hby at_155) k) ?_
    show own_Go p e below K (T25.setTop (mkF m 156 #[.val (.int p1), .val (.int p2), .val (.int p3), .val (.int p4), .val (.int p5), .val (.int p6), .val (.ref b1), .val (.int ua), .val (.int ub), .val (.int r18), .val (.int r19), .unset] [(.int (0 : Int32))]))
    exact J156 T25 _ X25 e25 N25 ((0 : Int32)) (own_B.no rfl fun q => own_B.fails hr25 hc135 (q 3))
  refine own_st (fun t k => XS.ifNo X25.here hx rfl (hb hby at_135) rfl ((if0 _ _).trans (feq hc135).1) k) ?_
  show own_Go p e below K (T25.setTop (mkF m 138 #[.val (.int p1), .val (.int p2), .val (.int p3), .val (.int p4), .val (.int p5), .val (.int p6), .val (.ref b1), .val (.int ua), .val (.int ub), .val (.int r18), .val (.int r19), .unset] []))
  refine own_st (fun t k => XS.aload X25.here hx rfl (hb hby at_138) rfl rfl k) ?_
  show own_Go p e below K (T25.setTop (mkF m 140 #[.val (.int p1), .val (.int p2), .val (.int p3), .val (.int p4), .val (.int p5), .val (.int p6), .val (.ref b1), .val (.int ua), .val (.int ub), .val (.int r18), .val (.int r19), .unset] [(.ref b1)]))
  refine own_st (fun t k => XS.iconst X25.here hx rfl (hb hby at_140) k) ?_
  show own_Go p e below K (T25.setTop (mkF m 141 #[.val (.int p1), .val (.int p2), .val (.int p3), .val (.int p4), .val (.int p5), .val (.int p6), .val (.ref b1), .val (.int ua), .val (.int ub), .val (.int r18), .val (.int r19), .unset] [(.int (4 : Int32)), (.ref b1)]))
  refine own_st (fun t k => XS.iload X25.here hx rfl (hb hby at_141) rfl k) ?_
  show own_Go p e below K (T25.setTop (mkF m 143 #[.val (.int p1), .val (.int p2), .val (.int p3), .val (.int p4), .val (.int p5), .val (.int p6), .val (.ref b1), .val (.int ua), .val (.int ub), .val (.int r18), .val (.int r19), .unset] [(.int r18), (.int (4 : Int32)), (.ref b1)]))
  refine own_st (fun t k => XS.iload X25.here hx rfl (hb hby at_143) rfl k) ?_
  show own_Go p e below K (T25.setTop (mkF m 145 #[.val (.int p1), .val (.int p2), .val (.int p3), .val (.int p4), .val (.int p5), .val (.int p6), .val (.ref b1), .val (.int ua), .val (.int ub), .val (.int r18), .val (.int r19), .unset] [(.int r19), (.int r18), (.int (4 : Int32)), (.ref b1)]))
  obtain ⟨_, _, ⟨T26, L26, k26, n26⟩, -, X26, ⟨Lc26, hQ26, l26, y26, z26⟩, st26⟩ := Jvm.LawKit.callS X25 hx (y := (⟨"org/ranktide/formats/LineReaderBlankPinLaw", "ok", "([BIII)Z"⟩ : MethodName)) hown (mvT hZ (hw _ (List.mem_of_getElem? (i := 12) rfl))) (mvT hZ (hw _ (List.mem_of_getElem? (i := 13) rfl))) (mvT hZ (hw _ (List.mem_of_getElem? (i := 3) rfl))) (mvT hZ (hw _ (List.mem_of_getElem? (i := 14) rfl))) (by decide) (backOf (W := 0) (rm4 l Z a0 hw [] b1 (4 : Int32) r18 r19 (k1) ((5 : Int32)) (bs) h16 n0 Z16 V17 (by decide) (by decide)) hZ (hw _ (List.mem_of_getElem? (i := 14) rfl)) (hw _ (List.mem_of_getElem? (i := 3) rfl)) (by decide) (by decide)) (g := (mkF m 145 #[.val (.int p1), .val (.int p2), .val (.int p3), .val (.int p4), .val (.int p5), .val (.int p6), .val (.ref b1), .val (.int ua), .val (.int ub), .val (.int r18), .val (.int r19), .unset] [(.int r19), (.int r18), (.int (4 : Int32)), (.ref b1)])) rfl (by rw [hml]; rfl) (argsL := [(.ref b1), (.int (4 : Int32)), (.int r18), (.int r19)]) (rest := []) (lenOf pd_0_2 rfl) rfl (by show 2 * 0 + _ ≤ _; exact Nat.le_of_eq rfl) (hb hby at_145) (fun _ _ => ⟨rfl, e25, (by decide : 1 + 0 ≤ _), (by decide : 5 + 0 ≤ _)⟩)
  dsimp only [Pt.U, Pt.locs, Pt.cells, Pt.slots] at X26 l26 y26 z26 st26 hQ26
  subst l26 y26 z26
  obtain ⟨r26, rfl, hr26, N26q, e26⟩ := hQ26
  have N26 := Fr.app N25 N26q
  refine own_st st26 ?_
  show own_Go p e below K (T26.setTop (mkF m 148 #[.val (.int p1), .val (.int p2), .val (.int p3), .val (.int p4), .val (.int p5), .val (.int p6), .val (.ref b1), .val (.int ua), .val (.int ub), .val (.int r18), .val (.int r19), .unset] [(.int r26)]))
  by_cases hc148 : r26 = (0 : Int32)
  · refine own_st (fun t k => XS.ifYes X26.here hx rfl (pc0 := 148) (pc' := 155) rfl (hb hby at_148) rfl ((if0 _ _).trans (teq hc148).1) (by decide) (by decide) k) ?_
    show own_Go p e below K (T26.setTop (mkF m 155 #[.val (.int p1), .val (.int p2), .val (.int p3), .val (.int p4), .val (.int p5), .val (.int p6), .val (.ref b1), .val (.int ua), .val (.int ub), .val (.int r18), .val (.int r19), .unset] []))
    refine own_st (fun t k => XS.iconst X26.here hx rfl (hb hby at_155) k) ?_
    show own_Go p e below K (T26.setTop (mkF m 156 #[.val (.int p1), .val (.int p2), .val (.int p3), .val (.int p4), .val (.int p5), .val (.int p6), .val (.ref b1), .val (.int ua), .val (.int ub), .val (.int r18), .val (.int r19), .unset] [(.int (0 : Int32))]))
    exact J156 T26 _ X26 e26 N26 ((0 : Int32)) (own_B.no rfl fun q => own_B.fails hr26 hc148 (q 4))
  refine own_st (fun t k => XS.ifNo X26.here hx rfl (hb hby at_148) rfl ((if0 _ _).trans (feq hc148).1) k) ?_
  show own_Go p e below K (T26.setTop (mkF m 151 #[.val (.int p1), .val (.int p2), .val (.int p3), .val (.int p4), .val (.int p5), .val (.int p6), .val (.ref b1), .val (.int ua), .val (.int ub), .val (.int r18), .val (.int r19), .unset] []))
  refine own_st (fun t k => XS.iconst X26.here hx rfl (hb hby at_151) k) ?_
  show own_Go p e below K (T26.setTop (mkF m 152 #[.val (.int p1), .val (.int p2), .val (.int p3), .val (.int p4), .val (.int p5), .val (.int p6), .val (.ref b1), .val (.int ua), .val (.int ub), .val (.int r18), .val (.int r19), .unset] [(.int (1 : Int32))]))
  refine own_st (fun t k => XS.goto X26.here hx rfl (pc0 := 152) (pc' := 156) rfl (hb hby at_152) (by decide) (by decide) k) ?_
  show own_Go p e below K (T26.setTop (mkF m 156 #[.val (.int p1), .val (.int p2), .val (.int p3), .val (.int p4), .val (.int p5), .val (.int p6), .val (.ref b1), .val (.int ua), .val (.int ub), .val (.int r18), .val (.int r19), .unset] [(.int (1 : Int32))]))
  exact J156 T26 _ X26 e26 N26 ((1 : Int32)) (own_B.yes rfl (own_five Bt.2 (own_B.holds hr22 hc96) (own_B.holds hr23 hc109) (own_B.holds hr24 hc122) (own_B.holds hr25 hc135) (own_B.holds hr26 hc148)))
set_option maxRecDepth 65536 in
set_option maxHeartbeats 40000000 in
theorem comes_1 {Post : Tables → Env → Array Value → State → Outcome → State → Prop} (hpost : ∀ tb e args s v u, (limb_1_1.after args s (.returned v) u = true ∧ limb_1_2.after args s (.returned v) u = true ∧ True) → FrameEnd s (.returned v) u (Jvm.fieldLocs frame_1_writes args s ++ Jvm.arrayLocs frame_1_arrays args s ++ Jvm.staticLocs frame_1_statics s) 16 128 → Post tb e args s (.returned v) u) :
    ArmFor flags0 classFile x code maxLocals ret World_1 tables_1 room_1 Calls_1 rest_1 Pre_1 Post := by
  intro l hfl _ _ p e ha hc hk s m args below hf hA hF happ hP
  obtain ⟨hcalls, hrest, hpre⟩ := hP
  obtain ⟨-, -, -, hnamed, -, -, -, hat⟩ := (Spec.applies_iff hf).mp happ
  obtain ⟨hg, hn⟩ := and_e (Cond.before_iff.mp (show (Jvm.Cond.and given_1 narrow_1).before args s = true from hpre))
  obtain ⟨g1, g2⟩ := and_e hg
  obtain ⟨g3, g4⟩ := and_e g2
  obtain ⟨g5, g6⟩ := and_e g4
  obtain ⟨g7, g8⟩ := and_e g6
  obtain ⟨g9, g10⟩ := and_e g8
  obtain ⟨g11, g12⟩ := and_e g10
  obtain ⟨w0, w1, w2, w3, w4, w5, rfl⟩ : ∃ w0 w1 w2 w3 w4 w5 : Value, args = #[w0, w1, w2, w3, w4, w5] := by
    have hs : args.size = 6 := by simpa [Cond.value, given_1] using g1
    obtain ⟨L⟩ := args
    match L, hs with
    | [w0, w1, w2, w3, w4, w5], _ => exact ⟨w0, w1, w2, w3, w4, w5, rfl⟩
  have hw := fun d (hd : d ∈ tables_1) => atoms_spec (ws := Jvm.Cond.code x code maxLocals ret :: tables_1) hat d (List.mem_cons_of_mem _ hd)
  have hfit : Fit s := fun {y c} hc i hi => by
    obtain ⟨ha, rfl⟩ := Array.getElem?_eq_some_iff.mp hc
    have q := List.all_eq_true.mp ((Array.all_eq_true_iff_forall_mem.mp hF) _ (Array.getElem_mem ha)) i (List.mem_range.mpr hi)
    simpa [Array.getElem?_eq_getElem hi] using q
  obtain ⟨i0, ei0⟩ := is_v g3
  obtain rfl : w0 = (.int i0) := Option.some.inj ei0
  obtain ⟨i1, ei1⟩ := is_v g5
  obtain rfl : w1 = (.int i1) := Option.some.inj ei1
  obtain ⟨i2, ei2⟩ := is_v g7
  obtain rfl : w2 = (.int i2) := Option.some.inj ei2
  obtain ⟨i3, ei3⟩ := is_v g9
  obtain rfl : w3 = (.int i3) := Option.some.inj ei3
  obtain ⟨i4, ei4⟩ := is_v g11
  obtain rfl : w4 = (.int i4) := Option.some.inj ei4
  obtain ⟨i5, ei5⟩ := is_v g12
  obtain rfl : w5 = (.int i5) := Option.some.inj ei5
  obtain ⟨n, o, h1, h2, h3, _, L, rfl, ⟨rfl, N⟩, hq⟩ := rm0 l s _ hw tables_1 i0 i1 i2 i3 i4 i5 s.heap s.heap.size (Nat.le_refl _) p e ha hc hk s m _ below hf ((Spec.applies_iff_loose hf).mp happ).1 ⟨rfl, State.Warmed39.refl s, rfl⟩ trivial
  refine ⟨n, _, h1, h2, h3, hpost _ _ _ _ _ _ ⟨Cond.after_iff.mpr rfl, Cond.after_iff.mpr (eq_i res_at (Term.int_eval (1)) rfl), trivial⟩ ⟨hq.1, hq.2.1, (hq.2.2.sift fun y hy => Or.inr (N y hy)).mono (by decide) (by decide)⟩⟩
theorem main_1_1 : Claimed_1_1 := comes_1 fun _ _ _ _ _ _ h hF => ⟨h.1, hF⟩
theorem main_1_2 : Claimed_1_2 := comes_1 fun _ _ _ _ _ _ h hF => ⟨h.2.1, hF⟩
end Jvm.Pilot.@@N@@
namespace Jvm.Pilot.@@N@@
open Jvm Jvm.ClassFile Sem Op Lib Jvm.Free Jvm.Stand Jvm.Pilot.@@N@@.Jvm.D
/-! MADE BY PROGRAM (witnessworld.py) out of the Statement's table words and the real class files: 10 classes; the members and pool entries that the words name. The judged class is class 1, her method 3. -/
namespace start1
open Jvm.ClassFile
def u (s : String) : CpInfo := .utf8 (stringToUtf16 s)
/-- a pool by its gaps: so many unusable entries, then the entry; so many at the end -/
def gap : Nat → List CpInfo → List CpInfo
  | 0, r => r
  | n + 1, r => .unusable :: gap n r
def poolList (es : List (Nat × CpInfo)) (last : Nat) : List CpInfo := es.foldr (fun e r => gap e.1 (e.2 :: r)) (gap last [])
def pool (es : List (Nat × CpInfo)) (last : Nat) : Array CpInfo := ⟨poolList es last⟩
def fileOf (pool : Array CpInfo) (this : Nat) (attrs : Array Attribute := #[]) (ms : Array MethodInfo := #[]) (fl : Nat := 33) (sup : Nat := 0) (ifs : Array Nat := #[]) (fds : Array FieldInfo := #[]) : ClassFile where
  minorVersion := 0
  majorVersion := 65
  constantPool := pool
  accessFlags := fl
  thisClass := this
  superClass := sup
  interfaces := ifs
  fields := fds
  methods := ms
  attributes := attrs
def plain (name : String) (sup : Option ClassId) : Class where
  name := name
  kind := .ordinary
  loader := none
  accessFlags := 33
  super := sup
  interfaces := #[]
  cf := none
  fields := #[]
  methods := #[]
  instanceTypes := #[]
  staticTypes := #[]
  resolved := #[]
  callSites := []
  init := .initialized
  statics := none
  mirror := none

def pool0 : Array CpInfo := pool [(5, u "<init>"), (0, u "()V"), (1, .class_ 10), (1, u "java/lang/Object")] 113

def k0m0 : Method := { name := "<init>", desc := "()V", sig := { parameters := [], returnType := none }, accessFlags := 1, code := none }
/-- java/lang/Object -/
def k0 : Class := { plain "java/lang/Object" none with
  accessFlags := 33
  interfaces := #[]
  cf := some (fileOf pool0 8 #[] #[{ accessFlags := 1, nameIndex := 5, descriptorIndex := 6, attributes := #[] }] 33 0 #[] #[])
  fields := #[]
  methods := #[k0m0]
  instanceTypes := #[]
  staticTypes := #[]
  resolved := Array.replicate 124 none
  statics := none }

def pool1 : Array CpInfo := pool [(2, .class_ 4), (1, u "java/lang/Object"), (0, u "<init>"), (0, u "()V"), (0, .methodref 8 9), (0, .class_ 10), (0, .nameAndType 11 12), (0, u "org/ranktide/formats/LineReaderBlankPinLaw"), (0, u "pick"), (0, u "(I)B"), (0, .methodref 14 15), (0, .class_ 16), (0, .nameAndType 17 18), (0, u "java/lang/Math"), (0, u "min"), (0, u "(II)I"), (0, .methodref 14 20), (0, .nameAndType 21 18), (0, u "max"), (0, .methodref 8 23), (0, .nameAndType 24 25), (0, u "ok"), (0, u "([BIII)Z"), (0, .methodref 27 28), (0, .class_ 29), (0, .nameAndType 30 31), (0, u "org/ranktide/formats/LineReader"), (0, u "blank"), (0, u "([BII)Z"), (3, u "law"), (0, u "(IIIIII)Z")] 4

def k1m0 : Method := { name := "<init>", desc := "()V", sig := { parameters := [], returnType := none }, accessFlags := 2, code := none }
def k1c1 : Code := { maxStack := 2, maxLocals := 2, code := method_2_code, exceptionTable := #[], attributes := #[] }
def k1m1 : Method := { name := "pick", desc := "(I)B", sig := { parameters := [.int], returnType := some .byte }, accessFlags := 10, code := some k1c1 }
def k1c2 : Code := { maxStack := 2, maxLocals := 4, code := method_3_code, exceptionTable := #[], attributes := #[] }
def k1m2 : Method := { name := "ok", desc := "([BIII)Z", sig := { parameters := [(.array .byte), .int, .int, .int], returnType := some .boolean }, accessFlags := 10, code := some k1c2 }
def k1c3 : Code := { maxStack := 4, maxLocals := 12, code := code, exceptionTable := #[], attributes := #[] }
def k1m3 : Method := { name := "law", desc := "(IIIIII)Z", sig := { parameters := [.int, .int, .int, .int, .int, .int], returnType := some .boolean }, accessFlags := 9, code := some k1c3 }
/-- org/ranktide/formats/LineReaderBlankPinLaw -/
def k1 : Class := { plain "org/ranktide/formats/LineReaderBlankPinLaw" (some 0) with
  accessFlags := 49
  interfaces := #[]
  cf := some (fileOf pool1 8 #[] #[{ accessFlags := 2, nameIndex := 5, descriptorIndex := 6, attributes := #[] }, { accessFlags := 10, nameIndex := 11, descriptorIndex := 12, attributes := #[] }, { accessFlags := 10, nameIndex := 24, descriptorIndex := 25, attributes := #[] }, { accessFlags := 9, nameIndex := 35, descriptorIndex := 36, attributes := #[] }] 49 2 #[] #[])
  fields := #[]
  methods := #[k1m0, k1m1, k1m2, k1m3]
  instanceTypes := #[]
  staticTypes := #[]
  resolved := Array.replicate 41 none
  statics := none }

def pool2 : Array CpInfo := pool [(1, .class_ 2), (0, u "java/lang/Math"), (1, .class_ 6), (1, u "java/lang/Object"), (0, u "<init>"), (0, u "()V"), (89, .class_ 100), (1, u "java/lang/Math$RandomNumberGeneratorHolder"), (71, u "negativeZeroFloatBits"), (0, u "J"), (2, u "negativeZeroDoubleBits"), (21, u "max"), (2, u "min"), (43, u "$assertionsDisabled"), (0, u "Z"), (88, u "(II)I"), (2, u "twoToTheDoubleScaleDown"), (0, u "D"), (4, u "twoToTheDoubleScaleUp"), (9, u "E"), (3, u "PI"), (2, u "TAU"), (2, u "DEGREES_TO_RADIANS"), (0, u "RADIANS_TO_DEGREES")] 94

def k2m0 : Method := { name := "<init>", desc := "()V", sig := { parameters := [], returnType := none }, accessFlags := 2, code := none }
def k2c1 : Code := { maxStack := 2, maxLocals := 2, code := jdk_29_method_65_code, exceptionTable := #[], attributes := #[] }
def k2m1 : Method := { name := "max", desc := "(II)I", sig := { parameters := [.int, .int], returnType := some .int }, accessFlags := 9, code := some k2c1 }
def k2c2 : Code := { maxStack := 2, maxLocals := 2, code := jdk_29_method_69_code, exceptionTable := #[], attributes := #[] }
def k2m2 : Method := { name := "min", desc := "(II)I", sig := { parameters := [.int, .int], returnType := some .int }, accessFlags := 9, code := some k2c2 }
/-- java/lang/Math -/
def k2 : Class := { plain "java/lang/Math" (some 0) with
  accessFlags := 49
  interfaces := #[]
  cf := some (fileOf pool2 1 #[.nestMembers #[98]] #[{ accessFlags := 2, nameIndex := 7, descriptorIndex := 8, attributes := #[] }, { accessFlags := 9, nameIndex := 198, descriptorIndex := 335, attributes := #[] }, { accessFlags := 9, nameIndex := 201, descriptorIndex := 335, attributes := #[] }] 49 4 #[] #[{ accessFlags := 25, nameIndex := 354, descriptorIndex := 339, attributes := #[] }, { accessFlags := 25, nameIndex := 358, descriptorIndex := 339, attributes := #[] }, { accessFlags := 25, nameIndex := 361, descriptorIndex := 339, attributes := #[] }, { accessFlags := 26, nameIndex := 364, descriptorIndex := 339, attributes := #[] }, { accessFlags := 26, nameIndex := 365, descriptorIndex := 339, attributes := #[] }, { accessFlags := 26, nameIndex := 172, descriptorIndex := 173, attributes := #[] }, { accessFlags := 26, nameIndex := 176, descriptorIndex := 173, attributes := #[] }, { accessFlags := 8, nameIndex := 344, descriptorIndex := 339, attributes := #[] }, { accessFlags := 8, nameIndex := 338, descriptorIndex := 339, attributes := #[] }, { accessFlags := 4120, nameIndex := 245, descriptorIndex := 246, attributes := #[] }])
  fields := #[{ name := "E", type := .double, accessFlags := 25, slot := 0, constantValue := 0 }, { name := "PI", type := .double, accessFlags := 25, slot := 1, constantValue := 0 }, { name := "TAU", type := .double, accessFlags := 25, slot := 2, constantValue := 0 }, { name := "DEGREES_TO_RADIANS", type := .double, accessFlags := 26, slot := 3, constantValue := 0 }, { name := "RADIANS_TO_DEGREES", type := .double, accessFlags := 26, slot := 4, constantValue := 0 }, { name := "negativeZeroFloatBits", type := .long, accessFlags := 26, slot := 5, constantValue := 0 }, { name := "negativeZeroDoubleBits", type := .long, accessFlags := 26, slot := 6, constantValue := 0 }, { name := "twoToTheDoubleScaleUp", type := .double, accessFlags := 8, slot := 7, constantValue := 0 }, { name := "twoToTheDoubleScaleDown", type := .double, accessFlags := 8, slot := 8, constantValue := 0 }, { name := "$assertionsDisabled", type := .boolean, accessFlags := 4120, slot := 9, constantValue := 0 }]
  methods := #[k2m0, k2m1, k2m2]
  instanceTypes := #[]
  staticTypes := #[.double, .double, .double, .double, .double, .long, .long, .double, .double, .boolean]
  resolved := Array.replicate 460 none
  statics := none }

def pool3 : Array CpInfo := pool [(2, .class_ 4), (1, u "java/lang/Object"), (3, .class_ 10), (1, u "org/ranktide/formats/LineReader"), (0, u "file"), (0, u "Ljava/nio/file/Path;"), (2, u "badLines"), (0, u "Lorg/ranktide/formats/BadLines;"), (2, u "consumer"), (0, u "Lorg/ranktide/formats/LineReader$Consumer;"), (9, u "skipped"), (0, u "J"), (6, u "lineNumber"), (42, .class_ 83), (1, u "org/ranktide/formats/LineReader$Consumer"), (19, u "BUFFER_SIZE"), (0, u "I"), (1, u "MAX_LINE"), (15, u "blank"), (0, u "([BII)Z")] 21

def k3c0 : Code := { maxStack := 2, maxLocals := 4, code := prog_25_method_6_code, exceptionTable := #[], attributes := #[] }
def k3m0 : Method := { name := "blank", desc := "([BII)Z", sig := { parameters := [(.array .byte), .int, .int], returnType := some .boolean }, accessFlags := 8, code := some k3c0 }
/-- org/ranktide/formats/LineReader -/
def k3 : Class := { plain "org/ranktide/formats/LineReader" (some 0) with
  accessFlags := 48
  interfaces := #[]
  cf := some (fileOf pool3 8 #[.nestMembers #[81]] #[{ accessFlags := 8, nameIndex := 122, descriptorIndex := 123, attributes := #[] }] 48 2 #[] #[{ accessFlags := 26, nameIndex := 103, descriptorIndex := 104, attributes := #[] }, { accessFlags := 26, nameIndex := 106, descriptorIndex := 104, attributes := #[] }, { accessFlags := 18, nameIndex := 11, descriptorIndex := 12, attributes := #[] }, { accessFlags := 18, nameIndex := 15, descriptorIndex := 16, attributes := #[] }, { accessFlags := 18, nameIndex := 19, descriptorIndex := 20, attributes := #[] }, { accessFlags := 2, nameIndex := 38, descriptorIndex := 31, attributes := #[] }, { accessFlags := 2, nameIndex := 30, descriptorIndex := 31, attributes := #[] }])
  fields := #[{ name := "BUFFER_SIZE", type := .int, accessFlags := 26, slot := 0, constantValue := 0 }, { name := "MAX_LINE", type := .int, accessFlags := 26, slot := 1, constantValue := 0 }, { name := "file", type := (.object "java/nio/file/Path"), accessFlags := 18, slot := 0, constantValue := 0 }, { name := "badLines", type := (.object "org/ranktide/formats/BadLines"), accessFlags := 18, slot := 1, constantValue := 0 }, { name := "consumer", type := (.object "org/ranktide/formats/LineReader$Consumer"), accessFlags := 18, slot := 2, constantValue := 0 }, { name := "lineNumber", type := .long, accessFlags := 2, slot := 3, constantValue := 0 }, { name := "skipped", type := .long, accessFlags := 2, slot := 4, constantValue := 0 }]
  methods := #[k3m0]
  instanceTypes := #[(.object "java/nio/file/Path"), (.object "org/ranktide/formats/BadLines"), (.object "org/ranktide/formats/LineReader$Consumer"), .long, .long]
  staticTypes := #[.int, .int]
  resolved := Array.replicate 145 none
  statics := none }

def pool4 : Array CpInfo := pool [(1, u "java/lang/Cloneable"), (0, .class_ 1), (0, u "java/lang/Object"), (0, .class_ 3)] 3

/-- java/lang/Cloneable -/
def k4 : Class := { plain "java/lang/Cloneable" (some 0) with
  accessFlags := 1537
  interfaces := #[]
  cf := some (fileOf pool4 2 #[] #[] 1537 4 #[] #[])
  fields := #[]
  methods := #[]
  instanceTypes := #[]
  staticTypes := #[]
  resolved := Array.replicate 8 none
  statics := none }

def pool5 : Array CpInfo := pool [(1, u "java/io/Serializable"), (0, .class_ 1), (0, u "java/lang/Object"), (0, .class_ 3)] 3

/-- java/io/Serializable -/
def k5 : Class := { plain "java/io/Serializable" (some 0) with
  accessFlags := 1537
  interfaces := #[]
  cf := some (fileOf pool5 2 #[] #[] 1537 4 #[] #[])
  fields := #[]
  methods := #[]
  instanceTypes := #[]
  staticTypes := #[]
  resolved := Array.replicate 8 none
  statics := none }

/-- the primitive byte -/
def k6 : Class := { plain "byte" none with kind := .primitive 'B', accessFlags := 0x411 }
/-- [B -/
def k7 : Class := { plain "[B" (some 0) with kind := .array 6 .byte, interfaces := #[4, 5], accessFlags := 1041 }

/-- the primitive int -/
def k8 : Class := { plain "int" none with kind := .primitive 'I', accessFlags := 0x411 }
/-- [I -/
def k9 : Class := { plain "[I" (some 0) with kind := .array 8 .int, interfaces := #[4, 5], accessFlags := 1041 }

def heap : Heap := #[]
def classes : Array Class := #[k0, k1, k2, k3, k4, k5, k6, k7, k8, k9]
def interned : List (Array UInt16 × Addr) := []
def slotsUsed : Nat := 0
def theMethod : MethodId := ⟨1, 3⟩
def args0 : Array Value := #[.int 1, .int 2, .int 3, .int 4, .int 5, .int 6]
def aboutOver (below : List Frame) : State where
  vm := { classes := classes, interned := interned.toArray }
  heap := heap
  slotsUsed := slotsUsed
  threads := #[{ frames := .invoking theMethod args0 :: below }]
def below0 : List Frame := [.native { method := ⟨0, 0⟩, args := #[] }]
def about1 : State := aboutOver below0
def p0 : Program := .bare "" "" ""
def e0 : Env := launch0.env 0 0 0
theorem w_frames : about1.frames = Frame.invoking theMethod args0 :: below0 := rfl
set_option maxRecDepth 65536 in
theorem w_args : argsFit about1.vm theMethod args0 = true := by decide +kernel
set_option maxRecDepth 65536 in
theorem w_heap : heapFits about1 = true := by decide +kernel
set_option maxRecDepth 65536 in
theorem w_runnable : about1.curStatus? = some .runnable := by decide +kernel
set_option maxRecDepth 65536 in
theorem w_alone : about1.alone = true := by decide +kernel
set_option maxRecDepth 65536 in
theorem w_named : about1.methodNamed? x = some theMethod := by decide +kernel
set_option maxRecDepth 65536 in
theorem w_hears : about1.hears theMethod below0 = true := by decide +kernel
set_option maxRecDepth 65536 in
theorem w_ripe : about1.ripe theMethod args0 below0 = true := by decide +kernel
theorem w_running : about1.status = .running := rfl
set_option maxRecDepth 65536 in
theorem w_room : about1.hasRoom e0.platform room_1 = true :=
  launch0.hasRoom_least _ room_1 (by decide +kernel) (by decide +kernel) (by decide +kernel) (by decide +kernel) (by decide +kernel) (by decide +kernel)
theorem allAtoms_all (ts : List Jvm.Cond) (a : Array Jvm.Value) (st : Jvm.State) : (allAtoms ts).before a st = ts.all (fun c => c.before a st) := by
  induction ts with
  | nil => rfl
  | cons c t ih =>
    show (Jvm.Cond.and c (allAtoms t)).before a st = _
    rw [Jvm.Cond.before_and, ih, List.all_cons]
def words1 : List Jvm.Cond := Jvm.Cond.code x code maxLocals ret :: tables_1
/-- a 'code' word, met by the world's own term for the bytes: nothing is compared byte by byte -/
theorem code_word {y : MethodName} {bytes : ByteArray} {mx : Nat} {rt : Option FieldType} {a : Array Value} {s : State} {m : MethodId} {meth : Method} {c : Code} (h1 : s.methodNamed? y = some m) (h2 : s.vm.method? m = some meth) (h3 : meth.code = some c) (h4 : c.code = bytes)
    (h5 : (c.maxLocals == mx && c.exceptionTable.isEmpty && decide (c.maxStack ≤ mostOperands) && decide (meth.sig.returnType = rt) && !meth.locks && decide (parseMethodDescriptor y.desc = some meth.sig)) = true) : (Jvm.Cond.code y bytes mx rt).before a s = true := by
  simp only [Bool.and_eq_true, beq_iff_eq, Bool.not_eq_true', decide_eq_true_eq] at h5
  obtain ⟨⟨⟨⟨⟨g1, g2⟩, g3⟩, g4⟩, g5⟩, g6⟩ := h5
  simp [Cond.before, Cond.holds, Cond.value, h1, h2, h3, h4, g1, g2, g3, g4, g5, g6]
def isCode : Jvm.Cond → Bool
  | .code _ _ _ _ => true
  | _ => false
theorem all_split {L : List Jvm.Cond} {P : Jvm.Cond → Bool} (h1 : L.all (fun c => isCode c || P c) = true) (h2 : ∀ c ∈ L.filter isCode, P c = true) : L.all P = true := by
  refine List.all_eq_true.mpr fun c hc => ?_
  have h := List.all_eq_true.mp h1 c hc
  rcases Bool.eq_false_or_eq_true (isCode c) with hi | hi
  · exact h2 c (List.mem_filter.mpr ⟨hc, hi⟩)
  · simpa [hi] using h
set_option maxRecDepth 65536 in
theorem w_c0 : (Jvm.Cond.code x code maxLocals ret).before args0 about1 = true := code_word (m := ⟨1, 3⟩) (meth := k1m3) (c := k1c3) (by decide +kernel) rfl rfl rfl (by decide +kernel)
set_option maxRecDepth 65536 in
theorem w_c1 : (Jvm.Cond.code ({ cls := "org/ranktide/formats/LineReaderBlankPinLaw", name := "pick", desc := "(I)B" } : Jvm.MethodName) method_2_code (2 : Nat) (Option.some Jvm.ClassFile.FieldType.byte)).before args0 about1 = true := code_word (m := ⟨1, 1⟩) (meth := k1m1) (c := k1c1) (by decide +kernel) rfl rfl rfl (by decide +kernel)
set_option maxRecDepth 65536 in
theorem w_c2 : (Jvm.Cond.code ({ cls := "java/lang/Math", name := "min", desc := "(II)I" } : Jvm.MethodName) jdk_29_method_69_code (2 : Nat) (Option.some Jvm.ClassFile.FieldType.int)).before args0 about1 = true := code_word (m := ⟨2, 2⟩) (meth := k2m2) (c := k2c2) (by decide +kernel) rfl rfl rfl (by decide +kernel)
set_option maxRecDepth 65536 in
theorem w_c3 : (Jvm.Cond.code ({ cls := "java/lang/Math", name := "max", desc := "(II)I" } : Jvm.MethodName) jdk_29_method_65_code (2 : Nat) (Option.some Jvm.ClassFile.FieldType.int)).before args0 about1 = true := code_word (m := ⟨2, 1⟩) (meth := k2m1) (c := k2c1) (by decide +kernel) rfl rfl rfl (by decide +kernel)
set_option maxRecDepth 65536 in
theorem w_c4 : (Jvm.Cond.code ({ cls := "org/ranktide/formats/LineReaderBlankPinLaw", name := "ok", desc := "([BIII)Z" } : Jvm.MethodName) method_3_code (4 : Nat) (Option.some Jvm.ClassFile.FieldType.boolean)).before args0 about1 = true := code_word (m := ⟨1, 2⟩) (meth := k1m2) (c := k1c2) (by decide +kernel) rfl rfl rfl (by decide +kernel)
set_option maxRecDepth 65536 in
theorem w_c5 : (Jvm.Cond.code ({ cls := "org/ranktide/formats/LineReader", name := "blank", desc := "([BII)Z" } : Jvm.MethodName) prog_25_method_6_code (4 : Nat) (Option.some Jvm.ClassFile.FieldType.boolean)).before args0 about1 = true := code_word (m := ⟨3, 0⟩) (meth := k3m0) (c := k3c0) (by decide +kernel) rfl rfl rfl (by decide +kernel)
def codes1 : List Jvm.Cond := [Jvm.Cond.code x code maxLocals ret, Jvm.Cond.code ({ cls := "org/ranktide/formats/LineReaderBlankPinLaw", name := "pick", desc := "(I)B" } : Jvm.MethodName) method_2_code (2 : Nat) (Option.some Jvm.ClassFile.FieldType.byte), Jvm.Cond.code ({ cls := "java/lang/Math", name := "min", desc := "(II)I" } : Jvm.MethodName) jdk_29_method_69_code (2 : Nat) (Option.some Jvm.ClassFile.FieldType.int), Jvm.Cond.code ({ cls := "java/lang/Math", name := "max", desc := "(II)I" } : Jvm.MethodName) jdk_29_method_65_code (2 : Nat) (Option.some Jvm.ClassFile.FieldType.int), Jvm.Cond.code ({ cls := "org/ranktide/formats/LineReaderBlankPinLaw", name := "ok", desc := "([BIII)Z" } : Jvm.MethodName) method_3_code (4 : Nat) (Option.some Jvm.ClassFile.FieldType.boolean), Jvm.Cond.code ({ cls := "org/ranktide/formats/LineReader", name := "blank", desc := "([BII)Z" } : Jvm.MethodName) prog_25_method_6_code (4 : Nat) (Option.some Jvm.ClassFile.FieldType.boolean)]
set_option maxRecDepth 65536 in
theorem codes_eq : words1.filter isCode = codes1 := rfl
theorem w_codes : ∀ c ∈ words1.filter isCode, c.before args0 about1 = true := by
  rw [codes_eq]
  intro c hc
  simp only [codes1, List.mem_cons, List.not_mem_nil, or_false] at hc
  rcases hc with rfl | rfl | rfl | rfl | rfl | rfl
  · exact w_c0
  · exact w_c1
  · exact w_c2
  · exact w_c3
  · exact w_c4
  · exact w_c5
set_option maxRecDepth 65536 in
theorem w_t1 : words1.all (fun c => isCode c || c.before args0 about1) = true := by decide +kernel
theorem w_tables : (allAtoms (Jvm.Cond.code x code maxLocals ret :: tables_1)).before args0 about1 = true := by
  rw [allAtoms_all]
  show words1.all (fun c => c.before args0 about1) = true
  refine all_split ?_ w_codes
  rw [w_t1]
set_option maxRecDepth 65536 in
theorem w_case : (Jvm.Cond.and given_1 narrow_1).before args0 about1 = true := by decide +kernel
theorem w_applies : (headSpec (Jvm.Cond.code x code maxLocals ret :: tables_1) room_1).applies x e0.platform about1 = true :=
  (Spec.applies_iff w_frames).mpr ⟨w_running, w_runnable, w_alone, w_named, w_hears, w_ripe, w_room, w_tables⟩
theorem atStart : AtStart classFile x code maxLocals ret World_1 tables_1 room_1 Calls_1 rest_1 Pre_1 launch0 p0 e0 about1 theMethod args0 below0 :=
  ⟨lists_1, trivial, launch0.admits_env _ _ _, launch0.least_env, fairChoices_fair.cas, fairChoices_fair.clock, w_frames, w_args, w_heap, w_applies, trivial, trivial, w_case⟩
end start1
theorem witness_1 : WitnessClaimed_1 := ⟨start1.p0, start1.e0, start1.about1, start1.theMethod, start1.args0, start1.below0, start1.atStart⟩
end Jvm.Pilot.@@N@@
