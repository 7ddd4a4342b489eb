import JvmDerived
import JvmDerived.Pilot.@@N@@Statement
import JvmDerived.Pilot.@@N@@Code
set_option linter.unusedVariables false
set_option linter.unusedSimpArgs false
namespace Jvm.RoadKit
open Sem ClassFile Op Lib Jvm.Stand Jvm.Free Jvm.LawKit
section New
variable {p : Program} {l : Launch} {e : Env} {R : Room} {s : State} {m : MethodId} {args : Array Value} {below : List Frame} {meth : Method} {c : Code} {T : State} {locs : List Loc} {cells slots : Nat}
theorem retI (X : Stand p l e R s m args below meth c T locs cells slots) (hx : p.tables.exec = Jvm.exec) {pc : Nat} {Ls : Array Slot} {z : Int32} {rest : List Value} (hret : meth.sig.returnType = some .int) (hd : decode c.code pc = .ok (.ireturn, 1)) {fs : List Frame}
    (hl : ∀ (f : JFrame) (acts : List Action), f.method = m → f.locked = none → f.entered = [] → (doReturn e (T.setTop f) acts (some (.int z))).1 = T.setFrames fs) : Steps p.tables e below (T.setTop (mkF m pc Ls (.int z :: rest))) (T.setFrames fs) := by
  have hm' : T.vm.method? m = some meth := X.method'
  have hn : narrow .int (.int z) = .int z := rfl
  show Steps p.tables e below (T.setTop { method := m, pc := pc, locals := Ls, stack := _ :: rest, locked := none }) _
  jvm_step X.here [X.here.top, hx, hd, hm', hret, hn]
  first | (intro acts; rw [hl _ acts rfl rfl rfl]) | rw [hl _ _ rfl rfl rfl]
  exact Steps.refl _
end New
end Jvm.RoadKit
namespace Jvm.Pilot.@@N@@
open Jvm Jvm.ClassFile Sem Op Lib Jvm.Free Jvm.Stand Jvm.LawKit Jvm.RoadKit Bundle Jvm.Pilot.@@N@@.Jvm.D
/-- from the state T the run comes to a state of which K holds -/
def own_Go (p : Program) (e : Env) (below : List Frame) (K : State → Prop) (T : State) : Prop := ∃ t, Steps p.tables e below T t ∧ K t
theorem own_st {p : Program} {e : Env} {below : List Frame} {K : State → Prop} {T T' : State} (h : ∀ t, Steps p.tables e below T' t → Steps p.tables e below T t) (g : own_Go p e below K T') : own_Go p e below K T := by
  obtain ⟨t, a, b⟩ := g; exact ⟨t, h t a, b⟩
theorem own_tr {p : Program} {e : Env} {below : List Frame} {K : State → Prop} {T T' : State} (h : Steps p.tables e below T T') (g : own_Go p e below K T') : own_Go p e below K T := by
  obtain ⟨t, a, b⟩ := g; exact ⟨t, h.trans a, b⟩
theorem own_lrem {tb : Tables} [Ours tb] {e : Env} {below : List Frame} {T target : State} {m : MethodId} {c : Code} {g : JFrame} (h : At T m c below) (hx : tb.exec = Jvm.exec) (hg : g.method = m) {x y : Int64} {rest : List Value} (hd : decode c.code g.pc = .ok (.lrem, 1)) (hs : g.stack = .long y :: .long x :: rest) (hy : y ≠ 0)
    (hr : Steps tb e below (T.setTop { g with pc := g.pc + 1, stack := .long (x % y) :: rest }) target) : Steps tb e below (T.setTop g) target := by
  have q : x - x / y * y = x % y := lrem_mod x y
  exact XS.lrem h hx hg hd hs hy (by rw [q]; exact hr)
/-- a boolean's worth: 1 where P holds, 0 where it doesn't -/
def own_B (P : Prop) (r : Int32) : Prop := (r = 1 ∧ P) ∨ (r = 0 ∧ ¬ P)
theorem own_B.yes {P : Prop} {r : Int32} (e : r = 1) (h : P) : own_B P r := Or.inl ⟨e, h⟩
theorem own_B.no {P : Prop} {r : Int32} (e : r = 0) (h : ¬ P) : own_B P r := Or.inr ⟨e, h⟩
theorem own_B.same {P Q : Prop} {r v : Int32} (a : own_B P r) (b : own_B Q v) (h : P ↔ Q) : r = v := by
  rcases a with ⟨rfl, p⟩ | ⟨rfl, p⟩ <;> rcases b with ⟨rfl, q⟩ | ⟨rfl, q⟩
  · rfl
  · exact absurd (h.mp p) q
  · exact absurd (h.mpr q) p
  · rfl
theorem own_B.one {P : Prop} {r : Int32} (a : own_B P r) (h : P) : r = 1 := by
  rcases a with ⟨rfl, p⟩ | ⟨rfl, p⟩
  · rfl
  · exact absurd h p
theorem own_B.zero {P : Prop} {r : Int32} (a : own_B P r) (h : ¬ P) : r = 0 := by
  rcases a with ⟨rfl, p⟩ | ⟨rfl, p⟩
  · exact absurd p h
  · rfl
theorem own_B.ne0 {P : Prop} {r : Int32} (a : own_B P r) (h : P) : ¬ r = 0 := by rw [a.one h]; decide
theorem own_B.holds {P : Prop} {r : Int32} (a : own_B P r) (h : ¬ r = 0) : P := by
  rcases a with ⟨rfl, p⟩ | ⟨rfl, p⟩
  · exact p
  · exact absurd rfl h
theorem own_B.fails {P : Prop} {r : Int32} (a : own_B P r) (h : r = 0) : ¬ P := by
  rcases a with ⟨rfl, p⟩ | ⟨rfl, p⟩
  · exact absurd h (by decide)
  · exact p
theorem own_atJ (ws : List Int64) (i : Nat) : (ws.map Value.long).getD i (.long (0 : Int64)) = .long (ws.getD i 0) := by
  simp only [List.getD, List.getElem?_map]; cases ws[i]? <;> rfl
theorem own_atI (ws : List Int32) (i : Nat) : (ws.map Value.int).getD i (.int (0 : Int32)) = .int (ws.getD i 0) := by
  simp only [List.getD, List.getElem?_map]; cases ws[i]? <;> rfl
theorem own_selp {Z s : State} {a0 args : Array Value} {y : MethodName} {n : Nat} (hZ : Z.Warmed39 s.vm) (wi : (Jvm.Cond.instantiable y.cls n).before a0 Z = true) (wm : (Jvm.Cond.instanceMethod y).before a0 Z = true) (wp : (Jvm.Cond.privateMethod y).before a0 Z = true) (hy : y.cls ≠ "java/lang/invoke/MethodHandle" ∧ y.cls ≠ "java/lang/invoke/VarHandle") : (Jvm.Cond.selects y.cls y y).before args s = true := by
  have w1 : (Jvm.Cond.instantiable y.cls n).before args s = true := mvT hZ wi
  obtain ⟨c, k, h1, h2, h3, h4, -⟩ := Cond.instantiable_spec w1
  have h5 : k.isInterface = false := by cases hq : k.isInterface <;> simp [hq] at h4 ⊢
  exact selects_self_of_private h1 h2 h5 (Cond.privateMethod_at (mvP hZ wp (args := args))) (mvT hZ wm) hy
theorem own_hat {T : State} {h : Heap} {a : Addr} {c : Cell} (e : T.heap = h) (q : h[a]? = some c) : T.heap[a]? = some c := by rw [e]; exact q
theorem own_nn (x : Int32) : nar .byte (nar .byte x) = nar .byte x := by
  refine Int32.toInt_inj.mp ?_
  have a := c_i2b x
  have b := c_i2b x.toInt8.toInt32
  show x.toInt8.toInt32.toInt8.toInt32.toInt = x.toInt8.toInt32.toInt
  omega
theorem own_nb (x : Int32) : nar .byte x.toInt8.toInt32 = x.toInt8.toInt32 := own_nn x
theorem own_fit {x : Int32} (h : nar .byte x = x) : fits .byte (.int x) = true := by rw [← h]; exact fits_nar_byte x
theorem own_cl {j : Int32} {i : Nat} (h : j.toInt = (i : Int)) : j.toNatClampNeg = i := by rw [Int32.toNatClampNeg, h]; rfl
theorem own_lt {a b : Int32} (h : a.toInt < b.toInt) : a < b := Int32.lt_iff_toInt_lt.mpr h
theorem own_nlt {a b : Int32} (h : b.toInt ≤ a.toInt) : ¬ a < b := fun q => absurd (Int32.lt_iff_toInt_lt.mp q) (by omega)
theorem own_ltI {a b : Int32} (h : a < b) : a.toInt < b.toInt := Int32.lt_iff_toInt_lt.mp h
theorem own_nltI {a b : Int32} (h : ¬ a < b) : b.toInt ≤ a.toInt := by have := mt Int32.lt_iff_toInt_lt.mpr h; omega
theorem own_neI {a b : Int32} (h : ¬ a = b) : ¬ a.toInt = b.toInt := fun q => h (Int32.toInt_inj.mp q)
theorem own_ltL {a b : Int64} (h : a < b) : a.toInt < b.toInt := Int64.lt_iff_toInt_lt.mp h
theorem own_nltL {a b : Int64} (h : ¬ a < b) : b.toInt ≤ a.toInt := by have := mt Int64.lt_iff_toInt_lt.mpr h; omega
theorem own_neL {a b : Int64} (h : ¬ a = b) : ¬ a.toInt = b.toInt := fun q => h (Int64.toInt_inj.mp q)
theorem own_msk (c : Int32) : 0 ≤ (c &&& (2147483647 : Int32)).toInt := by
  have k : (c &&& (2147483647 : Int32)).toInt = c.toInt % 2147483648 := c_mask c 2147483647 31 (by decide) (by decide)
  omega
theorem own_rem {c d j : Int32} (hd : 0 < d.toInt) (h : (c &&& (2147483647 : Int32)) % d = j) : 0 ≤ j.toInt ∧ j.toInt < d.toInt := by
  have v := (c_iremV (c &&& 2147483647) d).1 (own_msk c) hd
  rw [h] at v
  exact ⟨v.1, v.2.1⟩
theorem own_p1 {i : Int32} (h : 0 ≤ i.toInt ∧ i.toInt < 3) : (i + (1 : Int32)).toInt = i.toInt + 1 := by
  have a := c_iadd i 1
  have t1 : (1 : Int32).toInt = 1 := by decide
  have r := rng32 (i + 1)
  rw [t1] at a
  omega
theorem own_nz {d : Int32} (h : 0 < d.toInt) : d ≠ 0 := fun q => by
  rw [q] at h
  exact absurd h (by decide)
theorem own_ib {c i : Int32} (h : c &&& (63 : Int32) = i) : 0 ≤ i.toInt ∧ i.toInt < 64 := by
  have e : (c &&& (63 : Int32)).toInt = c.toInt % 64 := c_mask c 63 6 (by decide) (by decide)
  rw [h] at e
  omega
theorem own_co {i a b : Int32} (hi : 0 ≤ i.toInt ∧ i.toInt < 3) (ha : 0 ≤ a.toInt ∧ a.toInt < i.toInt + 1) (hb : 0 ≤ b.toInt ∧ b.toInt < 64) : ((i - a) * (64 : Int32) + b).toInt = (i.toInt - a.toInt) * 64 + b.toInt := by
  have s := c_isub i a
  have m := c_imul (i - a) 64
  have d := c_iadd ((i - a) * 64) b
  have t2 : (64 : Int32).toInt = 64 := by decide
  have r1 := rng32 (i - a)
  have r2 := rng32 ((i - a) * 64)
  have r3 := rng32 ((i - a) * 64 + b)
  rw [t2] at m
  omega
theorem own_ix {i a b c : Int32} (hi : 0 ≤ i.toInt ∧ i.toInt < 3) (ha : 0 ≤ a.toInt ∧ a.toInt < i.toInt + 1) (hb : 0 ≤ b.toInt ∧ b.toInt < 64) (hc : c.toInt = (i.toInt - a.toInt) * 64 + b.toInt) : a + c / (64 : Int32) = i := by
  refine Int32.toInt_inj.mp ?_
  have d := (c_idiv c 64 64 (by decide) (by decide)).1 (by omega)
  have s := c_iadd a (c / 64)
  have r := rng32 (a + c / 64)
  omega
theorem own_bt {i a b c : Int32} (hb : 0 ≤ b.toInt ∧ b.toInt < 64) (hc : c.toInt = (i.toInt - a.toInt) * 64 + b.toInt) : c &&& 0x3f = b &&& 0x3f := by
  refine Int32.toInt_inj.mp ?_
  have e1 : (c &&& 0x3f).toInt = c.toInt % 64 := c_mask _ 0x3f 6 (by decide) (by decide)
  have e2 : (b &&& 0x3f).toInt = b.toInt % 64 := c_mask _ 0x3f 6 (by decide) (by decide)
  omega
theorem own_three {t : Int32} (h : 0 ≤ t.toInt ∧ t.toInt < 3) : t = 0 ∨ t = 1 ∨ t = 2 := by
  have h' : t.toInt = 0 ∨ t.toInt = 1 ∨ t.toInt = 2 := by omega
  rcases h' with q | q | q
  · exact Or.inl (Int32.toInt_inj.mp q)
  · exact Or.inr (Or.inl (Int32.toInt_inj.mp q))
  · exact Or.inr (Or.inr (Int32.toInt_inj.mp q))
theorem own_ones (i : Nat) (hi : i < 64) : (-1#64).getLsbD i = true := by
  rw [show (-1#64 : BitVec 64) = BitVec.allOnes 64 from by decide, BitVec.getLsbD_allOnes]; simpa using hi
theorem own_bv1 (x : BitVec 64) (n : Nat) (h : n < 64) : ((x &&& ((1#64 <<< n) ^^^ (-1#64))) >>> n) &&& 1#64 = 0#64 := by
  apply BitVec.eq_of_getLsbD_eq
  intro i hi
  simp only [BitVec.getLsbD_and, BitVec.getLsbD_ushiftRight, BitVec.getLsbD_xor, BitVec.getLsbD_shiftLeft, BitVec.getLsbD_zero, BitVec.getLsbD_one]
  by_cases q : i = 0
  · subst q
    rw [Nat.add_zero, own_ones n h]
    simp [h]
  · simp [q]
theorem own_bv2 (x m : BitVec 64) : (x &&& (m ^^^ (-1#64))) ||| m = x ||| m := by
  apply BitVec.eq_of_getLsbD_eq
  intro i hi
  simp only [BitVec.getLsbD_and, BitVec.getLsbD_or, BitVec.getLsbD_xor]
  have e : (-1#64).getLsbD i = true := by
    rw [show (-1#64 : BitVec 64) = BitVec.allOnes 64 from by decide, BitVec.getLsbD_allOnes]; simpa using hi
  rw [e]
  cases x.getLsbD i <;> cases m.getLsbD i <;> rfl
theorem own_or (x m : Int64) : (x &&& (m ^^^ (-1 : Int64))) ||| m = x ||| m := by
  apply Int64.toBitVec_inj.mp
  exact own_bv2 x.toBitVec m.toBitVec
theorem own_clr (x : Int64) (b : Int32) : ((x &&& (((1 : Int64) <<< (b &&& 0x3f).toInt64) ^^^ (-1 : Int64))).toUInt64 >>> (b &&& 0x3f).toInt64.toUInt64).toInt64 &&& (1 : Int64) = (0 : Int64) := by
  apply Int64.toBitVec_inj.mp
  have k := sm64 b _ rfl
  show (((x.toBitVec &&& ((1#64 <<< ((b &&& 0x3f).toInt64.toBitVec.smod 64)) ^^^ (-1#64))) >>> ((b &&& 0x3f).toInt64.toBitVec % 64)) &&& 1#64) = 0#64
  have u : ((BitVec.ofNat 64 (b.toBitVec.toNat % 64)) % 64).toNat = b.toBitVec.toNat % 64 := by
    rw [BitVec.toNat_umod, BitVec.toNat_ofNat]
    show b.toBitVec.toNat % 64 % 2 ^ 64 % 64 = _
    omega
  rw [BitVec.shiftLeft_eq', BitVec.ushiftRight_eq', k.1, smod64 _ k.2, u]
  exact own_bv1 _ _ k.2
theorem d1_0 : decode prog_34_method_5_code 0 = .ok (.aload_n 0, 1) := by decide +kernel
theorem d1_1 : decode prog_34_method_5_code 1 = .ok (.iload_n 1, 1) := by decide +kernel
theorem d1_2 : decode prog_34_method_5_code 2 = .ok (.iload_n 2, 1) := by decide +kernel
theorem d1_3 : decode prog_34_method_5_code 3 = .ok (.bipush 64, 2) := by decide +kernel
theorem d1_5 : decode prog_34_method_5_code 5 = .ok (.idiv, 1) := by decide +kernel
theorem d1_6 : decode prog_34_method_5_code 6 = .ok (.iadd, 1) := by decide +kernel
theorem d1_7 : decode prog_34_method_5_code 7 = .ok (.dup2, 1) := by decide +kernel
theorem d1_8 : decode prog_34_method_5_code 8 = .ok (.laload, 1) := by decide +kernel
theorem d1_9 : decode prog_34_method_5_code 9 = .ok (.lconst 1, 1) := by decide +kernel
theorem d1_10 : decode prog_34_method_5_code 10 = .ok (.iload_n 2, 1) := by decide +kernel
theorem d1_11 : decode prog_34_method_5_code 11 = .ok (.lshl, 1) := by decide +kernel
theorem d1_12 : decode prog_34_method_5_code 12 = .ok (.ldc2_w 54, 3) := by decide +kernel
theorem d1_15 : decode prog_34_method_5_code 15 = .ok (.lxor, 1) := by decide +kernel
theorem d1_16 : decode prog_34_method_5_code 16 = .ok (.land, 1) := by decide +kernel
theorem d1_17 : decode prog_34_method_5_code 17 = .ok (.lastore, 1) := by decide +kernel
theorem d1_18 : decode prog_34_method_5_code 18 = .ok (.return_, 1) := by decide +kernel
theorem pn_1 : plainName "com/example/slotwright/slotwright/instance/CourseSet" = true := by first | (simp [plainName, overriddenIn]; done) | decide +kernel
theorem ef_1 (m : MethodId) (x0 : Addr) (x1 : Int32) (x2 : Int32) : entryFrame m #[(.ref x0), (.int x1), (.int x2)] 3 = mkF m 0 #[.val (.ref x0), .val (.int x1), .val (.int x2)] [] := by first | (simp [entryFrame, mkF, argsToLocals, Value.category]; done) | rfl
def Q1 (Z : State) (a1 : Addr) (p2 : Int32) (p3 : Int32) (xk : ClassId) (xn : Int32) (xs : List Int64) (h0 : Heap) (n0 : Nat) (v : Option Value) (h : Heap) (L : List Loc) : Prop := v = none ∧ Fr n0 L ∧ Keep h0 h [a1] ∧ (Arv Z h a1 xk .long xn ((xs.set ((p2 + (p3 / (64 : Int32)))).toNatClampNeg ((xs.getD ((p2 + (p3 / (64 : Int32)))).toNatClampNeg 0) &&& (((1 : Int64) <<< (p3 &&& 0x3f).toInt64) ^^^ (-1 : Int64)))).map Value.long) (.long (0 : Int64)))
set_option maxRecDepth 65536 in
set_option maxHeartbeats 40000000 in
theorem rm1 (l : Launch) (Z : State) (a0 : Array Value) (hw : ∀ d ∈ tables_1, d.before a0 Z = true) (ws : List Jvm.Cond) (a1 : Addr) (p2 : Int32) (p3 : Int32) (xk : ClassId) (xn : Int32) (xs : List Int64) (h0 : Heap) (n0 : Nat) (Z0 : n0 ≤ h0.size) (g_a1 : n0 ≤ a1) (P0 : Arv Z h0 a1 xk .long xn (xs.map Value.long) (.long (0 : Int64))) (hj0 : ¬ (p2 + (p3 / (64 : Int32))) < 0) (hj1 : (p2 + (p3 / (64 : Int32))) < xn) (hl : ((p2 + (p3 / (64 : Int32)))).toNatClampNeg < xs.length) :
    MetFree l (⟨"com/example/slotwright/slotwright/instance/CourseSet", "remove", "([JII)V"⟩ : MethodName) (head1 (Jvm.Cond.code (⟨"com/example/slotwright/slotwright/instance/CourseSet", "remove", "([JII)V"⟩ : MethodName) prog_34_method_5_code 3 none :: ws) ({ frames := 0, cells := 0, slots := 0, locals := 0 } : Room)) (fun a U => a = #[(.ref a1), (.int p2), (.int p3)] ∧ Z.Warmed39 U.vm ∧ U.heap = h0) (fun _ _ _ _ _ => True) (fun _ U o U' => ∃ v L, o = .returned v ∧ Q1 Z a1 p2 p3 xk xn xs h0 n0 v U'.heap L ∧ FrameEnd U o U' L ({ frames := 0, cells := 0, slots := 0, locals := 0 } : Room).cells ({ frames := 0, cells := 0, slots := 0, locals := 0 } : Room).slots) := by
  refine MetFree.of_bodySF (plainFor_of_name pn_1) hisR ?_
  intro p e s m args below meth c s₁ Bd hml0 hP hK
  obtain ⟨rfl, hZ, hh⟩ := hP
  have hx := Bd.exec
  have hby := Bd.bytes
  have hml : c.maxLocals = 3 := hml0
  have hown : s.vm.findClass "com/example/slotwright/slotwright/instance/CourseSet" = some m.cls := findClass_of_methodNamed Bd.named
  have hnm := (name_of_methodNamed Bd.named Bd.method).1
  have X0 : Stand p l e ({ frames := 0, cells := 0, slots := 0, locals := 0 } : Room) s m #[(.ref a1), (.int p2), (.int p3)] below meth c s₁ [] 0 0 := Stand.of_body Bd
  have e0 : s₁.heap = h0 := by rw [← hh, Bd.state]; rfl
  have N0 := Fr.nil n0
  suffices G0 : ∀ K : State → Prop, (∀ (n : State) (v : Option Value) (L : List Loc), n.status = .running → Ended n below (.returned v) → Q1 Z a1 p2 p3 xk xn xs h0 n0 v n.heap L → FrameEnd s (.returned v) n L ({ frames := 0, cells := 0, slots := 0, locals := 0 } : Room).cells ({ frames := 0, cells := 0, slots := 0, locals := 0 } : Room).slots → K n) → own_Go p e below K (s₁.setTop (mkF m 0 #[.val (.ref a1), .val (.int p2), .val (.int p3)] [])) by
    obtain ⟨t, st, o, a, b, v, L, e1, q, fe⟩ := G0 (fun n => ∃ o, n.status = .running ∧ Ended n below o ∧ ∃ v L, o = .returned v ∧ Q1 Z a1 p2 p3 xk xn xs h0 n0 v n.heap L ∧ FrameEnd s o n L ({ frames := 0, cells := 0, slots := 0, locals := 0 } : Room).cells ({ frames := 0, cells := 0, slots := 0, locals := 0 } : Room).slots) (fun n v L a b q f => ⟨_, a, b, v, L, rfl, q, f⟩)
    exact ⟨t, o, castTop (ef_1 m a1 p2 p3) st, a, b, v, L, e1, q, fe⟩
  intro K fin
  show own_Go p e below K (s₁.setTop (mkF m 0 #[.val (.ref a1), .val (.int p2), .val (.int p3)] []))
  refine own_st (fun t k => XS.aloadN X0.here hx rfl (hb hby d1_0) rfl rfl k) ?_
  show own_Go p e below K (s₁.setTop (mkF m 1 #[.val (.ref a1), .val (.int p2), .val (.int p3)] [(.ref a1)]))
  refine own_st (fun t k => XS.iloadN X0.here hx rfl (hb hby d1_1) rfl k) ?_
  show own_Go p e below K (s₁.setTop (mkF m 2 #[.val (.ref a1), .val (.int p2), .val (.int p3)] [(.int p2), (.ref a1)]))
  refine own_st (fun t k => XS.iloadN X0.here hx rfl (hb hby d1_2) rfl k) ?_
  show own_Go p e below K (s₁.setTop (mkF m 3 #[.val (.ref a1), .val (.int p2), .val (.int p3)] [(.int p3), (.int p2), (.ref a1)]))
  refine own_st (fun t k => XS.bipush X0.here hx rfl (hb hby d1_3) k) ?_
  show own_Go p e below K (s₁.setTop (mkF m 5 #[.val (.ref a1), .val (.int p2), .val (.int p3)] [(.int (64 : Int32)), (.int p3), (.int p2), (.ref a1)]))
  refine own_st (fun t k => XS.idiv X0.here hx rfl (hb hby d1_5) rfl (by decide) k) ?_
  show own_Go p e below K (s₁.setTop (mkF m 6 #[.val (.ref a1), .val (.int p2), .val (.int p3)] [(.int (p3 / (64 : Int32))), (.int p2), (.ref a1)]))
  refine own_st (fun t k => XS.iadd X0.here hx rfl (hb hby d1_6) rfl k) ?_
  show own_Go p e below K (s₁.setTop (mkF m 7 #[.val (.ref a1), .val (.int p2), .val (.int p3)] [(.int (p2 + (p3 / (64 : Int32)))), (.ref a1)]))
  refine own_st (fun t k => XT.dup2 X0.here hx rfl (hb hby d1_7) rfl rfl rfl k) ?_
  show own_Go p e below K (s₁.setTop (mkF m 8 #[.val (.ref a1), .val (.int p2), .val (.int p3)] [(.int (p2 + (p3 / (64 : Int32)))), (.ref a1), (.int (p2 + (p3 / (64 : Int32)))), (.ref a1)]))
  obtain ⟨cl1, Ar1, qa1, Sa1, Ma1, Ha1, Ga1⟩ := id P0
  have hin1 : ¬ ((p2 + (p3 / (64 : Int32))) < 0 ∨ cl1.slots.size ≤ ((p2 + (p3 / (64 : Int32)))).toNatClampNeg) := inb_of Sa1 ⟨hj0, hj1⟩
  refine own_st (X0.laload hx (j := (p2 + (p3 / (64 : Int32)))) (v := (.long (xs.getD ((p2 + (p3 / (64 : Int32)))).toNatClampNeg 0))) (own_hat e0 Ar1.1) (State.isArrayOf_alike hZ.alike Ar1.2.1) Ar1.2.2 hin1 (Has.at Ha1 hin1 (own_atJ xs _)) (g := (mkF m 8 #[.val (.ref a1), .val (.int p2), .val (.int p3)] [(.int (p2 + (p3 / (64 : Int32)))), (.ref a1), (.int (p2 + (p3 / (64 : Int32)))), (.ref a1)])) rfl rfl (hb hby d1_8)) ?_
  show own_Go p e below K (s₁.setTop (mkF m 9 #[.val (.ref a1), .val (.int p2), .val (.int p3)] [(.long (xs.getD ((p2 + (p3 / (64 : Int32)))).toNatClampNeg 0)), (.int (p2 + (p3 / (64 : Int32)))), (.ref a1)]))
  refine own_st (fun t k => XS.lconst X0.here hx rfl (hb hby d1_9) k) ?_
  show own_Go p e below K (s₁.setTop (mkF m 10 #[.val (.ref a1), .val (.int p2), .val (.int p3)] [(.long (1 : Int64)), (.long (xs.getD ((p2 + (p3 / (64 : Int32)))).toNatClampNeg 0)), (.int (p2 + (p3 / (64 : Int32)))), (.ref a1)]))
  refine own_st (fun t k => XS.iloadN X0.here hx rfl (hb hby d1_10) rfl k) ?_
  show own_Go p e below K (s₁.setTop (mkF m 11 #[.val (.ref a1), .val (.int p2), .val (.int p3)] [(.int p3), (.long (1 : Int64)), (.long (xs.getD ((p2 + (p3 / (64 : Int32)))).toNatClampNeg 0)), (.int (p2 + (p3 / (64 : Int32)))), (.ref a1)]))
  refine own_st (fun t k => XS.lshl X0.here hx rfl (hb hby d1_11) rfl k) ?_
  show own_Go p e below K (s₁.setTop (mkF m 12 #[.val (.ref a1), .val (.int p2), .val (.int p3)] [(.long ((1 : Int64) <<< (p3 &&& 0x3f).toInt64)), (.long (xs.getD ((p2 + (p3 / (64 : Int32)))).toNatClampNeg 0)), (.int (p2 + (p3 / (64 : Int32)))), (.ref a1)]))
  refine own_st (X0.ldc2Long hx hown (mvT hZ (hw _ (List.mem_of_getElem? (i := 6) rfl))) (g := (mkF m 12 #[.val (.ref a1), .val (.int p2), .val (.int p3)] [(.long ((1 : Int64) <<< (p3 &&& 0x3f).toInt64)), (.long (xs.getD ((p2 + (p3 / (64 : Int32)))).toNatClampNeg 0)), (.int (p2 + (p3 / (64 : Int32)))), (.ref a1)])) rfl (hb hby d1_12)) ?_
  show own_Go p e below K (s₁.setTop (mkF m 15 #[.val (.ref a1), .val (.int p2), .val (.int p3)] [(.long (-1 : Int64)), (.long ((1 : Int64) <<< (p3 &&& 0x3f).toInt64)), (.long (xs.getD ((p2 + (p3 / (64 : Int32)))).toNatClampNeg 0)), (.int (p2 + (p3 / (64 : Int32)))), (.ref a1)]))
  refine own_st (fun t k => XS.lxor X0.here hx rfl (hb hby d1_15) rfl k) ?_
  show own_Go p e below K (s₁.setTop (mkF m 16 #[.val (.ref a1), .val (.int p2), .val (.int p3)] [(.long (((1 : Int64) <<< (p3 &&& 0x3f).toInt64) ^^^ (-1 : Int64))), (.long (xs.getD ((p2 + (p3 / (64 : Int32)))).toNatClampNeg 0)), (.int (p2 + (p3 / (64 : Int32)))), (.ref a1)]))
  refine own_st (fun t k => XS.land X0.here hx rfl (hb hby d1_16) rfl k) ?_
  show own_Go p e below K (s₁.setTop (mkF m 17 #[.val (.ref a1), .val (.int p2), .val (.int p3)] [(.long ((xs.getD ((p2 + (p3 / (64 : Int32)))).toNatClampNeg 0) &&& (((1 : Int64) <<< (p3 &&& 0x3f).toInt64) ^^^ (-1 : Int64)))), (.int (p2 + (p3 / (64 : Int32)))), (.ref a1)]))
  obtain ⟨cl2, Ar2, qa2, Sa2, Ma2, Ha2, Ga2⟩ := id P0
  have hin2 : ¬ ((p2 + (p3 / (64 : Int32))) < 0 ∨ cl2.slots.size ≤ ((p2 + (p3 / (64 : Int32)))).toNatClampNeg) := inb_of Sa2 ⟨hj0, hj1⟩
  obtain ⟨T3, h3, X3, e3, W3, st3⟩ := stJ X0 hx hZ e0 Ar2 (j := (p2 + (p3 / (64 : Int32)))) hin2 (g := (mkF m 17 #[.val (.ref a1), .val (.int p2), .val (.int p3)] [(.long ((xs.getD ((p2 + (p3 / (64 : Int32)))).toNatClampNeg 0) &&& (((1 : Int64) <<< (p3 &&& 0x3f).toInt64) ^^^ (-1 : Int64)))), (.int (p2 + (p3 / (64 : Int32)))), (.ref a1)])) rfl rfl (hb hby d1_17)
  have V3 : Arv Z h3 a1 xk .long xn ((xs.set ((p2 + (p3 / (64 : Int32)))).toNatClampNeg ((xs.getD ((p2 + (p3 / (64 : Int32)))).toNatClampNeg 0) &&& (((1 : Int64) <<< (p3 &&& 0x3f).toInt64) ^^^ (-1 : Int64)))).map Value.long) (.long (0 : Int64)) := by
    rw [List.map_set]
    exact Arv.set Ar2 qa2 Sa2 Ma2 Ha2 Ga2 rfl W3 _ rfl (by rw [List.length_map]; exact hl)
  have N3 := Fr.snoc X3 N0 g_a1
  have Z3 : n0 ≤ h3.size := Nat.le_trans Z0 (Keep.of_wr W3).1
  have K3 : Keep h0 h3 [a1] := (Keep.refl h0 [a1]).wr W3 (Or.inl (List.mem_of_getElem? (i := 0) rfl))
  refine own_st st3 ?_
  show own_Go p e below K (T3.setTop (mkF m 18 #[.val (.ref a1), .val (.int p2), .val (.int p3)] []))
  obtain ⟨fs, hr, hrun, hended, hW, hsame⟩ := X3.leave (v := none) (fun _ => rfl)
  refine ⟨_, X3.returnOut hx Bd.returns (hb hby d1_18) hr, fin _ _ _ hrun hended ?_ ⟨⟨_, rfl⟩, hW, hsame.mono (by decide) (by decide)⟩⟩
  show Q1 Z a1 p2 p3 xk xn xs h0 n0 _ T3.heap _
  rw [e3]
  exact ⟨rfl, N3, K3, V3⟩
theorem pn_0 : plainName "com/example/slotwright/slotwright/instance/CourseSetRemovePinLaw" = true := by first | (simp [plainName, overriddenIn]; done) | decide +kernel
theorem pd_0_0 : parseMethodDescriptor "([JII)V" = some ⟨[(.array .long), .int, .int], none⟩ := by decide +kernel
theorem ef_0 (m : MethodId) (x0 : Int64) (x1 : Int64) (x2 : Int64) (x3 : Int32) (x4 : Int32) (x5 : Int32) : entryFrame m #[(.long x0), (.long x1), (.long x2), (.int x3), (.int x4), (.int x5)] maxLocals = mkF m 0 #[.val (.long x0), .second, .val (.long x1), .second, .val (.long x2), .second, .val (.int x3), .val (.int x4), .val (.int x5), .unset, .unset, .unset, .unset, .unset, .unset, .unset, .unset, .unset, .unset, .unset, .unset, .unset, .unset, .unset] [] := by first | (simp [entryFrame, mkF, argsToLocals, Value.category, maxLocals]; done) | rfl
def Q0 (Z : State) (q1 : Int64) (q2 : Int64) (q3 : Int64) (p4 : Int32) (p5 : Int32) (p6 : Int32) (h0 : Heap) (n0 : Nat) (v : Option Value) (h : Heap) (L : List Loc) : Prop := v = some (.int 1) ∧ Fr n0 L
set_option maxRecDepth 65536 in
set_option maxHeartbeats 40000000 in
theorem rm0 (l : Launch) (Z : State) (a0 : Array Value) (hw : ∀ d ∈ tables_1, d.before a0 Z = true) (ws : List Jvm.Cond) (q1 : Int64) (q2 : Int64) (q3 : Int64) (p4 : Int32) (p5 : Int32) (p6 : Int32) (h0 : Heap) (n0 : Nat) (Z0 : n0 ≤ h0.size)  :
    MetFree l x (head1 (Jvm.Cond.code x code maxLocals ret :: ws) room_1) (fun a U => a = #[(.long q1), (.long q2), (.long q3), (.int p4), (.int p5), (.int p6)] ∧ Z.Warmed39 U.vm ∧ U.heap = h0) (fun _ _ _ _ _ => True) (fun _ U o U' => ∃ v L, o = .returned v ∧ Q0 Z q1 q2 q3 p4 p5 p6 h0 n0 v U'.heap L ∧ FrameEnd U o U' L 1 3) := by
  refine MetFree.of_bodySF (plainFor_of_name pn_0) hisR ?_
  intro p e s m args below meth c s₁ Bd hml0 hP hK
  obtain ⟨rfl, hZ, hh⟩ := hP
  have hx := Bd.exec
  have hby := Bd.bytes
  have hml : c.maxLocals = 24 := hml0
  have hown : s.vm.findClass "com/example/slotwright/slotwright/instance/CourseSetRemovePinLaw" = some m.cls := findClass_of_methodNamed Bd.named
  have hnm := (name_of_methodNamed Bd.named Bd.method).1
  have X0 : Stand p l e room_1 s m #[(.long q1), (.long q2), (.long q3), (.int p4), (.int p5), (.int p6)] below meth c s₁ [] 0 0 := Stand.of_body Bd
  have e0 : s₁.heap = h0 := by rw [← hh, Bd.state]; rfl
  have N0 := Fr.nil n0
  suffices G0 : ∀ K : State → Prop, (∀ (n : State) (v : Option Value) (L : List Loc), n.status = .running → Ended n below (.returned v) → Q0 Z q1 q2 q3 p4 p5 p6 h0 n0 v n.heap L → FrameEnd s (.returned v) n L 1 3 → K n) → own_Go p e below K (s₁.setTop (mkF m 0 #[.val (.long q1), .second, .val (.long q2), .second, .val (.long q3), .second, .val (.int p4), .val (.int p5), .val (.int p6), .unset, .unset, .unset, .unset, .unset, .unset, .unset, .unset, .unset, .unset, .unset, .unset, .unset, .unset, .unset] [])) by
    obtain ⟨t, st, o, a, b, v, L, e1, q, fe⟩ := G0 (fun n => ∃ o, n.status = .running ∧ Ended n below o ∧ ∃ v L, o = .returned v ∧ Q0 Z q1 q2 q3 p4 p5 p6 h0 n0 v n.heap L ∧ FrameEnd s o n L 1 3) (fun n v L a b q f => ⟨_, a, b, v, L, rfl, q, f⟩)
    exact ⟨t, o, castTop (ef_0 m q1 q2 q3 p4 p5 p6) st, a, b, v, L, e1, q, fe⟩
  intro K fin
  show own_Go p e below K (s₁.setTop (mkF m 0 #[.val (.long q1), .second, .val (.long q2), .second, .val (.long q3), .second, .val (.int p4), .val (.int p5), .val (.int p6), .unset, .unset, .unset, .unset, .unset, .unset, .unset, .unset, .unset, .unset, .unset, .unset, .unset, .unset, .unset] []))
  refine own_st (fun t k => XS.iload X0.here hx rfl (hb hby at_0) rfl k) ?_
  show own_Go p e below K (s₁.setTop (mkF m 2 #[.val (.long q1), .second, .val (.long q2), .second, .val (.long q3), .second, .val (.int p4), .val (.int p5), .val (.int p6), .unset, .unset, .unset, .unset, .unset, .unset, .unset, .unset, .unset, .unset, .unset, .unset, .unset, .unset, .unset] [(.int p4)]))
  refine own_st (X0.ldcInt hx hown (mvT hZ (hw _ (List.mem_of_getElem? (i := 0) rfl))) (g := (mkF m 2 #[.val (.long q1), .second, .val (.long q2), .second, .val (.long q3), .second, .val (.int p4), .val (.int p5), .val (.int p6), .unset, .unset, .unset, .unset, .unset, .unset, .unset, .unset, .unset, .unset, .unset, .unset, .unset, .unset, .unset] [(.int p4)])) rfl (hb hby at_2)) ?_
  show own_Go p e below K (s₁.setTop (mkF m 4 #[.val (.long q1), .second, .val (.long q2), .second, .val (.long q3), .second, .val (.int p4), .val (.int p5), .val (.int p6), .unset, .unset, .unset, .unset, .unset, .unset, .unset, .unset, .unset, .unset, .unset, .unset, .unset, .unset, .unset] [(.int (2147483647 : Int32)), (.int p4)]))
  refine own_st (fun t k => XS.iand X0.here hx rfl (hb hby at_4) rfl k) ?_
  show own_Go p e below K (s₁.setTop (mkF m 5 #[.val (.long q1), .second, .val (.long q2), .second, .val (.long q3), .second, .val (.int p4), .val (.int p5), .val (.int p6), .unset, .unset, .unset, .unset, .unset, .unset, .unset, .unset, .unset, .unset, .unset, .unset, .unset, .unset, .unset] [(.int (p4 &&& (2147483647 : Int32)))]))
  refine own_st (fun t k => XS.iconst X0.here hx rfl (hb hby at_5) k) ?_
  show own_Go p e below K (s₁.setTop (mkF m 6 #[.val (.long q1), .second, .val (.long q2), .second, .val (.long q3), .second, .val (.int p4), .val (.int p5), .val (.int p6), .unset, .unset, .unset, .unset, .unset, .unset, .unset, .unset, .unset, .unset, .unset, .unset, .unset, .unset, .unset] [(.int (3 : Int32)), (.int (p4 &&& (2147483647 : Int32)))]))
  refine own_st (fun t k => iremM X0 hx rfl (hb hby at_6) rfl (by decide) k) ?_
  show own_Go p e below K (s₁.setTop (mkF m 7 #[.val (.long q1), .second, .val (.long q2), .second, .val (.long q3), .second, .val (.int p4), .val (.int p5), .val (.int p6), .unset, .unset, .unset, .unset, .unset, .unset, .unset, .unset, .unset, .unset, .unset, .unset, .unset, .unset, .unset] [(.int ((p4 &&& (2147483647 : Int32)) % (3 : Int32)))]))
  generalize hix : ((p4 &&& (2147483647 : Int32)) % (3 : Int32)) = ix
  show own_Go p e below K (s₁.setTop (mkF m 7 #[.val (.long q1), .second, .val (.long q2), .second, .val (.long q3), .second, .val (.int p4), .val (.int p5), .val (.int p6), .unset, .unset, .unset, .unset, .unset, .unset, .unset, .unset, .unset, .unset, .unset, .unset, .unset, .unset, .unset] [(.int ix)]))
  have Bx : 0 ≤ ix.toInt ∧ ix.toInt < 3 := own_rem (by decide) hix
  have Bp := own_p1 Bx
  refine own_st (fun t k => XS.istore X0.here hx rfl (hb hby at_7) rfl (l' := #[.val (.long q1), .second, .val (.long q2), .second, .val (.long q3), .second, .val (.int p4), .val (.int p5), .val (.int p6), .val (.int ix), .unset, .unset, .unset, .unset, .unset, .unset, .unset, .unset, .unset, .unset, .unset, .unset, .unset, .unset]) rfl k) ?_
  show own_Go p e below K (s₁.setTop (mkF m 9 #[.val (.long q1), .second, .val (.long q2), .second, .val (.long q3), .second, .val (.int p4), .val (.int p5), .val (.int p6), .val (.int ix), .unset, .unset, .unset, .unset, .unset, .unset, .unset, .unset, .unset, .unset, .unset, .unset, .unset, .unset] []))
  refine own_st (fun t k => XS.iload X0.here hx rfl (hb hby at_9) rfl k) ?_
  show own_Go p e below K (s₁.setTop (mkF m 11 #[.val (.long q1), .second, .val (.long q2), .second, .val (.long q3), .second, .val (.int p4), .val (.int p5), .val (.int p6), .val (.int ix), .unset, .unset, .unset, .unset, .unset, .unset, .unset, .unset, .unset, .unset, .unset, .unset, .unset, .unset] [(.int p5)]))
  refine own_st (X0.ldcInt hx hown (mvT hZ (hw _ (List.mem_of_getElem? (i := 0) rfl))) (g := (mkF m 11 #[.val (.long q1), .second, .val (.long q2), .second, .val (.long q3), .second, .val (.int p4), .val (.int p5), .val (.int p6), .val (.int ix), .unset, .unset, .unset, .unset, .unset, .unset, .unset, .unset, .unset, .unset, .unset, .unset, .unset, .unset] [(.int p5)])) rfl (hb hby at_11)) ?_
  show own_Go p e below K (s₁.setTop (mkF m 13 #[.val (.long q1), .second, .val (.long q2), .second, .val (.long q3), .second, .val (.int p4), .val (.int p5), .val (.int p6), .val (.int ix), .unset, .unset, .unset, .unset, .unset, .unset, .unset, .unset, .unset, .unset, .unset, .unset, .unset, .unset] [(.int (2147483647 : Int32)), (.int p5)]))
  refine own_st (fun t k => XS.iand X0.here hx rfl (hb hby at_13) rfl k) ?_
  show own_Go p e below K (s₁.setTop (mkF m 14 #[.val (.long q1), .second, .val (.long q2), .second, .val (.long q3), .second, .val (.int p4), .val (.int p5), .val (.int p6), .val (.int ix), .unset, .unset, .unset, .unset, .unset, .unset, .unset, .unset, .unset, .unset, .unset, .unset, .unset, .unset] [(.int (p5 &&& (2147483647 : Int32)))]))
  refine own_st (fun t k => XS.iload X0.here hx rfl (hb hby at_14) rfl k) ?_
  show own_Go p e below K (s₁.setTop (mkF m 16 #[.val (.long q1), .second, .val (.long q2), .second, .val (.long q3), .second, .val (.int p4), .val (.int p5), .val (.int p6), .val (.int ix), .unset, .unset, .unset, .unset, .unset, .unset, .unset, .unset, .unset, .unset, .unset, .unset, .unset, .unset] [(.int ix), (.int (p5 &&& (2147483647 : Int32)))]))
  refine own_st (fun t k => XS.iconst X0.here hx rfl (hb hby at_16) k) ?_
  show own_Go p e below K (s₁.setTop (mkF m 17 #[.val (.long q1), .second, .val (.long q2), .second, .val (.long q3), .second, .val (.int p4), .val (.int p5), .val (.int p6), .val (.int ix), .unset, .unset, .unset, .unset, .unset, .unset, .unset, .unset, .unset, .unset, .unset, .unset, .unset, .unset] [(.int (1 : Int32)), (.int ix), (.int (p5 &&& (2147483647 : Int32)))]))
  refine own_st (fun t k => XS.iadd X0.here hx rfl (hb hby at_17) rfl k) ?_
  show own_Go p e below K (s₁.setTop (mkF m 18 #[.val (.long q1), .second, .val (.long q2), .second, .val (.long q3), .second, .val (.int p4), .val (.int p5), .val (.int p6), .val (.int ix), .unset, .unset, .unset, .unset, .unset, .unset, .unset, .unset, .unset, .unset, .unset, .unset, .unset, .unset] [(.int (ix + (1 : Int32))), (.int (p5 &&& (2147483647 : Int32)))]))
  refine own_st (fun t k => iremM X0 hx rfl (hb hby at_18) rfl (own_nz (by rw [Bp]; omega)) k) ?_
  show own_Go p e below K (s₁.setTop (mkF m 19 #[.val (.long q1), .second, .val (.long q2), .second, .val (.long q3), .second, .val (.int p4), .val (.int p5), .val (.int p6), .val (.int ix), .unset, .unset, .unset, .unset, .unset, .unset, .unset, .unset, .unset, .unset, .unset, .unset, .unset, .unset] [(.int ((p5 &&& (2147483647 : Int32)) % (ix + (1 : Int32))))]))
  generalize hia : ((p5 &&& (2147483647 : Int32)) % (ix + (1 : Int32))) = ia
  show own_Go p e below K (s₁.setTop (mkF m 19 #[.val (.long q1), .second, .val (.long q2), .second, .val (.long q3), .second, .val (.int p4), .val (.int p5), .val (.int p6), .val (.int ix), .unset, .unset, .unset, .unset, .unset, .unset, .unset, .unset, .unset, .unset, .unset, .unset, .unset, .unset] [(.int ia)]))
  have Ba : 0 ≤ ia.toInt ∧ ia.toInt < ix.toInt + 1 := Bp ▸ own_rem (by rw [Bp]; omega) hia
  refine own_st (fun t k => XS.istore X0.here hx rfl (hb hby at_19) rfl (l' := #[.val (.long q1), .second, .val (.long q2), .second, .val (.long q3), .second, .val (.int p4), .val (.int p5), .val (.int p6), .val (.int ix), .val (.int ia), .unset, .unset, .unset, .unset, .unset, .unset, .unset, .unset, .unset, .unset, .unset, .unset, .unset]) rfl k) ?_
  show own_Go p e below K (s₁.setTop (mkF m 21 #[.val (.long q1), .second, .val (.long q2), .second, .val (.long q3), .second, .val (.int p4), .val (.int p5), .val (.int p6), .val (.int ix), .val (.int ia), .unset, .unset, .unset, .unset, .unset, .unset, .unset, .unset, .unset, .unset, .unset, .unset, .unset] []))
  refine own_st (fun t k => XS.iload X0.here hx rfl (hb hby at_21) rfl k) ?_
  show own_Go p e below K (s₁.setTop (mkF m 23 #[.val (.long q1), .second, .val (.long q2), .second, .val (.long q3), .second, .val (.int p4), .val (.int p5), .val (.int p6), .val (.int ix), .val (.int ia), .unset, .unset, .unset, .unset, .unset, .unset, .unset, .unset, .unset, .unset, .unset, .unset, .unset] [(.int ix)]))
  refine own_st (fun t k => XS.iload X0.here hx rfl (hb hby at_23) rfl k) ?_
  show own_Go p e below K (s₁.setTop (mkF m 25 #[.val (.long q1), .second, .val (.long q2), .second, .val (.long q3), .second, .val (.int p4), .val (.int p5), .val (.int p6), .val (.int ix), .val (.int ia), .unset, .unset, .unset, .unset, .unset, .unset, .unset, .unset, .unset, .unset, .unset, .unset, .unset] [(.int ia), (.int ix)]))
  refine own_st (fun t k => XS.isub X0.here hx rfl (hb hby at_25) rfl k) ?_
  show own_Go p e below K (s₁.setTop (mkF m 26 #[.val (.long q1), .second, .val (.long q2), .second, .val (.long q3), .second, .val (.int p4), .val (.int p5), .val (.int p6), .val (.int ix), .val (.int ia), .unset, .unset, .unset, .unset, .unset, .unset, .unset, .unset, .unset, .unset, .unset, .unset, .unset] [(.int (ix - ia))]))
  refine own_st (fun t k => XS.istore X0.here hx rfl (hb hby at_26) rfl (l' := #[.val (.long q1), .second, .val (.long q2), .second, .val (.long q3), .second, .val (.int p4), .val (.int p5), .val (.int p6), .val (.int ix), .val (.int ia), .val (.int (ix - ia)), .unset, .unset, .unset, .unset, .unset, .unset, .unset, .unset, .unset, .unset, .unset, .unset]) rfl k) ?_
  show own_Go p e below K (s₁.setTop (mkF m 28 #[.val (.long q1), .second, .val (.long q2), .second, .val (.long q3), .second, .val (.int p4), .val (.int p5), .val (.int p6), .val (.int ix), .val (.int ia), .val (.int (ix - ia)), .unset, .unset, .unset, .unset, .unset, .unset, .unset, .unset, .unset, .unset, .unset, .unset] []))
  refine own_st (fun t k => XS.iload X0.here hx rfl (hb hby at_28) rfl k) ?_
  show own_Go p e below K (s₁.setTop (mkF m 30 #[.val (.long q1), .second, .val (.long q2), .second, .val (.long q3), .second, .val (.int p4), .val (.int p5), .val (.int p6), .val (.int ix), .val (.int ia), .val (.int (ix - ia)), .unset, .unset, .unset, .unset, .unset, .unset, .unset, .unset, .unset, .unset, .unset, .unset] [(.int p6)]))
  refine own_st (fun t k => XS.bipush X0.here hx rfl (hb hby at_30) k) ?_
  show own_Go p e below K (s₁.setTop (mkF m 32 #[.val (.long q1), .second, .val (.long q2), .second, .val (.long q3), .second, .val (.int p4), .val (.int p5), .val (.int p6), .val (.int ix), .val (.int ia), .val (.int (ix - ia)), .unset, .unset, .unset, .unset, .unset, .unset, .unset, .unset, .unset, .unset, .unset, .unset] [(.int (63 : Int32)), (.int p6)]))
  refine own_st (fun t k => XS.iand X0.here hx rfl (hb hby at_32) rfl k) ?_
  show own_Go p e below K (s₁.setTop (mkF m 33 #[.val (.long q1), .second, .val (.long q2), .second, .val (.long q3), .second, .val (.int p4), .val (.int p5), .val (.int p6), .val (.int ix), .val (.int ia), .val (.int (ix - ia)), .unset, .unset, .unset, .unset, .unset, .unset, .unset, .unset, .unset, .unset, .unset, .unset] [(.int (p6 &&& (63 : Int32)))]))
  generalize hib : (p6 &&& (63 : Int32)) = ib
  show own_Go p e below K (s₁.setTop (mkF m 33 #[.val (.long q1), .second, .val (.long q2), .second, .val (.long q3), .second, .val (.int p4), .val (.int p5), .val (.int p6), .val (.int ix), .val (.int ia), .val (.int (ix - ia)), .unset, .unset, .unset, .unset, .unset, .unset, .unset, .unset, .unset, .unset, .unset, .unset] [(.int ib)]))
  have Bb := own_ib hib
  refine own_st (fun t k => XS.istore X0.here hx rfl (hb hby at_33) rfl (l' := #[.val (.long q1), .second, .val (.long q2), .second, .val (.long q3), .second, .val (.int p4), .val (.int p5), .val (.int p6), .val (.int ix), .val (.int ia), .val (.int (ix - ia)), .val (.int ib), .unset, .unset, .unset, .unset, .unset, .unset, .unset, .unset, .unset, .unset, .unset]) rfl k) ?_
  show own_Go p e below K (s₁.setTop (mkF m 35 #[.val (.long q1), .second, .val (.long q2), .second, .val (.long q3), .second, .val (.int p4), .val (.int p5), .val (.int p6), .val (.int ix), .val (.int ia), .val (.int (ix - ia)), .val (.int ib), .unset, .unset, .unset, .unset, .unset, .unset, .unset, .unset, .unset, .unset, .unset] []))
  refine own_st (fun t k => XS.iload X0.here hx rfl (hb hby at_35) rfl k) ?_
  show own_Go p e below K (s₁.setTop (mkF m 37 #[.val (.long q1), .second, .val (.long q2), .second, .val (.long q3), .second, .val (.int p4), .val (.int p5), .val (.int p6), .val (.int ix), .val (.int ia), .val (.int (ix - ia)), .val (.int ib), .unset, .unset, .unset, .unset, .unset, .unset, .unset, .unset, .unset, .unset, .unset] [(.int (ix - ia))]))
  refine own_st (fun t k => XS.bipush X0.here hx rfl (hb hby at_37) k) ?_
  show own_Go p e below K (s₁.setTop (mkF m 39 #[.val (.long q1), .second, .val (.long q2), .second, .val (.long q3), .second, .val (.int p4), .val (.int p5), .val (.int p6), .val (.int ix), .val (.int ia), .val (.int (ix - ia)), .val (.int ib), .unset, .unset, .unset, .unset, .unset, .unset, .unset, .unset, .unset, .unset, .unset] [(.int (64 : Int32)), (.int (ix - ia))]))
  refine own_st (fun t k => XS.imul X0.here hx rfl (hb hby at_39) rfl k) ?_
  show own_Go p e below K (s₁.setTop (mkF m 40 #[.val (.long q1), .second, .val (.long q2), .second, .val (.long q3), .second, .val (.int p4), .val (.int p5), .val (.int p6), .val (.int ix), .val (.int ia), .val (.int (ix - ia)), .val (.int ib), .unset, .unset, .unset, .unset, .unset, .unset, .unset, .unset, .unset, .unset, .unset] [(.int ((ix - ia) * (64 : Int32)))]))
  refine own_st (fun t k => XS.iload X0.here hx rfl (hb hby at_40) rfl k) ?_
  show own_Go p e below K (s₁.setTop (mkF m 42 #[.val (.long q1), .second, .val (.long q2), .second, .val (.long q3), .second, .val (.int p4), .val (.int p5), .val (.int p6), .val (.int ix), .val (.int ia), .val (.int (ix - ia)), .val (.int ib), .unset, .unset, .unset, .unset, .unset, .unset, .unset, .unset, .unset, .unset, .unset] [(.int ib), (.int ((ix - ia) * (64 : Int32)))]))
  refine own_st (fun t k => XS.iadd X0.here hx rfl (hb hby at_42) rfl k) ?_
  show own_Go p e below K (s₁.setTop (mkF m 43 #[.val (.long q1), .second, .val (.long q2), .second, .val (.long q3), .second, .val (.int p4), .val (.int p5), .val (.int p6), .val (.int ix), .val (.int ia), .val (.int (ix - ia)), .val (.int ib), .unset, .unset, .unset, .unset, .unset, .unset, .unset, .unset, .unset, .unset, .unset] [(.int (((ix - ia) * (64 : Int32)) + ib))]))
  generalize hic : (((ix - ia) * (64 : Int32)) + ib) = ic
  show own_Go p e below K (s₁.setTop (mkF m 43 #[.val (.long q1), .second, .val (.long q2), .second, .val (.long q3), .second, .val (.int p4), .val (.int p5), .val (.int p6), .val (.int ix), .val (.int ia), .val (.int (ix - ia)), .val (.int ib), .unset, .unset, .unset, .unset, .unset, .unset, .unset, .unset, .unset, .unset, .unset] [(.int ic)]))
  have Bc : ic.toInt = (ix.toInt - ia.toInt) * 64 + ib.toInt := hic ▸ own_co Bx Ba Bb
  have Ix := own_ix Bx Ba Bb Bc
  have Ib := own_bt Bb Bc
  refine own_st (fun t k => XS.istore X0.here hx rfl (hb hby at_43) rfl (l' := #[.val (.long q1), .second, .val (.long q2), .second, .val (.long q3), .second, .val (.int p4), .val (.int p5), .val (.int p6), .val (.int ix), .val (.int ia), .val (.int (ix - ia)), .val (.int ib), .val (.int ic), .unset, .unset, .unset, .unset, .unset, .unset, .unset, .unset, .unset, .unset]) rfl k) ?_
  show own_Go p e below K (s₁.setTop (mkF m 45 #[.val (.long q1), .second, .val (.long q2), .second, .val (.long q3), .second, .val (.int p4), .val (.int p5), .val (.int p6), .val (.int ix), .val (.int ia), .val (.int (ix - ia)), .val (.int ib), .val (.int ic), .unset, .unset, .unset, .unset, .unset, .unset, .unset, .unset, .unset, .unset] []))
  refine own_st (fun t k => XS.iconst X0.here hx rfl (hb hby at_45) k) ?_
  show own_Go p e below K (s₁.setTop (mkF m 46 #[.val (.long q1), .second, .val (.long q2), .second, .val (.long q3), .second, .val (.int p4), .val (.int p5), .val (.int p6), .val (.int ix), .val (.int ia), .val (.int (ix - ia)), .val (.int ib), .val (.int ic), .unset, .unset, .unset, .unset, .unset, .unset, .unset, .unset, .unset, .unset] [(.int (3 : Int32))]))
  obtain ⟨T1, h1, k1, X1, e1, E1, A1, st1⟩ := newP X0 hx hZ (hw _ (List.mem_of_getElem? (i := 1) rfl)) e0 (g := (mkF m 46 #[.val (.long q1), .second, .val (.long q2), .second, .val (.long q3), .second, .val (.int p4), .val (.int p5), .val (.int p6), .val (.int ix), .val (.int ia), .val (.int (ix - ia)), .val (.int ib), .val (.int ic), .unset, .unset, .unset, .unset, .unset, .unset, .unset, .unset, .unset, .unset] [(.int (3 : Int32))])) rfl (hb hby at_46) rfl (by decide) (cap := 3) (by decide) (by decide) (by decide) (by decide)
  obtain ⟨b1, g1⟩ : ∃ z, z = h0.size := ⟨_, rfl⟩
  rw [← g1] at A1 st1
  have g_b1 : n0 ≤ b1 := Nat.le_trans Z0 (Nat.le_of_eq g1.symm)
  have V1 : Arv Z h1 b1 k1 .long (3 : Int32) [(.long (0 : Int64)), (.long (0 : Int64)), (.long (0 : Int64))] (.long (0 : Int64)) := (Arv.new A1 (by decide)).pad (pad_rep [] (.long (0 : Int64)) 3)
  have Z1 : n0 ≤ h1.size := Nat.le_trans Z0 E1.1
  refine own_st st1 ?_
  show own_Go p e below K (T1.setTop (mkF m 48 #[.val (.long q1), .second, .val (.long q2), .second, .val (.long q3), .second, .val (.int p4), .val (.int p5), .val (.int p6), .val (.int ix), .val (.int ia), .val (.int (ix - ia)), .val (.int ib), .val (.int ic), .unset, .unset, .unset, .unset, .unset, .unset, .unset, .unset, .unset, .unset] [(.ref b1)]))
  refine own_st (fun t k => XS.dup X1.here hx rfl (hb hby at_48) rfl rfl k) ?_
  show own_Go p e below K (T1.setTop (mkF m 49 #[.val (.long q1), .second, .val (.long q2), .second, .val (.long q3), .second, .val (.int p4), .val (.int p5), .val (.int p6), .val (.int ix), .val (.int ia), .val (.int (ix - ia)), .val (.int ib), .val (.int ic), .unset, .unset, .unset, .unset, .unset, .unset, .unset, .unset, .unset, .unset] [(.ref b1), (.ref b1)]))
  refine own_st (fun t k => XS.iconst X1.here hx rfl (hb hby at_49) k) ?_
  show own_Go p e below K (T1.setTop (mkF m 50 #[.val (.long q1), .second, .val (.long q2), .second, .val (.long q3), .second, .val (.int p4), .val (.int p5), .val (.int p6), .val (.int ix), .val (.int ia), .val (.int (ix - ia)), .val (.int ib), .val (.int ic), .unset, .unset, .unset, .unset, .unset, .unset, .unset, .unset, .unset, .unset] [(.int (0 : Int32)), (.ref b1), (.ref b1)]))
  refine own_st (fun t k => XS.lloadN X1.here hx rfl (hb hby at_50) rfl k) ?_
  show own_Go p e below K (T1.setTop (mkF m 51 #[.val (.long q1), .second, .val (.long q2), .second, .val (.long q3), .second, .val (.int p4), .val (.int p5), .val (.int p6), .val (.int ix), .val (.int ia), .val (.int (ix - ia)), .val (.int ib), .val (.int ic), .unset, .unset, .unset, .unset, .unset, .unset, .unset, .unset, .unset, .unset] [(.long q1), (.int (0 : Int32)), (.ref b1), (.ref b1)]))
  obtain ⟨cl2, Ar2, qa2, Sa2, Ma2, Ha2, Ga2⟩ := id V1
  have hin2 : ¬ ((0 : Int32) < 0 ∨ cl2.slots.size ≤ ((0 : Int32)).toNatClampNeg) := inb_of Sa2 ⟨by decide, by decide⟩
  obtain ⟨T3, h3, X3, e3, W3, st3⟩ := stJ X1 hx hZ e1 Ar2 (j := (0 : Int32)) hin2 (g := (mkF m 51 #[.val (.long q1), .second, .val (.long q2), .second, .val (.long q3), .second, .val (.int p4), .val (.int p5), .val (.int p6), .val (.int ix), .val (.int ia), .val (.int (ix - ia)), .val (.int ib), .val (.int ic), .unset, .unset, .unset, .unset, .unset, .unset, .unset, .unset, .unset, .unset] [(.long q1), (.int (0 : Int32)), (.ref b1), (.ref b1)])) rfl rfl (hb hby at_51)
  have V3 : Arv Z h3 b1 k1 .long (3 : Int32) [(.long q1), (.long (0 : Int64)), (.long (0 : Int64))] (.long (0 : Int64)) := Arv.set Ar2 qa2 Sa2 Ma2 Ha2 Ga2 rfl W3 0 rfl (Nat.le_of_ble_eq_true rfl)
  have N3 := Fr.snoc X3 N0 g_b1
  have Z3 : n0 ≤ h3.size := Nat.le_trans Z1 (Keep.of_wr W3).1
  refine own_st st3 ?_
  show own_Go p e below K (T3.setTop (mkF m 52 #[.val (.long q1), .second, .val (.long q2), .second, .val (.long q3), .second, .val (.int p4), .val (.int p5), .val (.int p6), .val (.int ix), .val (.int ia), .val (.int (ix - ia)), .val (.int ib), .val (.int ic), .unset, .unset, .unset, .unset, .unset, .unset, .unset, .unset, .unset, .unset] [(.ref b1)]))
  refine own_st (fun t k => XS.dup X3.here hx rfl (hb hby at_52) rfl rfl k) ?_
  show own_Go p e below K (T3.setTop (mkF m 53 #[.val (.long q1), .second, .val (.long q2), .second, .val (.long q3), .second, .val (.int p4), .val (.int p5), .val (.int p6), .val (.int ix), .val (.int ia), .val (.int (ix - ia)), .val (.int ib), .val (.int ic), .unset, .unset, .unset, .unset, .unset, .unset, .unset, .unset, .unset, .unset] [(.ref b1), (.ref b1)]))
  refine own_st (fun t k => XS.iconst X3.here hx rfl (hb hby at_53) k) ?_
  show own_Go p e below K (T3.setTop (mkF m 54 #[.val (.long q1), .second, .val (.long q2), .second, .val (.long q3), .second, .val (.int p4), .val (.int p5), .val (.int p6), .val (.int ix), .val (.int ia), .val (.int (ix - ia)), .val (.int ib), .val (.int ic), .unset, .unset, .unset, .unset, .unset, .unset, .unset, .unset, .unset, .unset] [(.int (1 : Int32)), (.ref b1), (.ref b1)]))
  refine own_st (fun t k => XS.lloadN X3.here hx rfl (hb hby at_54) rfl k) ?_
  show own_Go p e below K (T3.setTop (mkF m 55 #[.val (.long q1), .second, .val (.long q2), .second, .val (.long q3), .second, .val (.int p4), .val (.int p5), .val (.int p6), .val (.int ix), .val (.int ia), .val (.int (ix - ia)), .val (.int ib), .val (.int ic), .unset, .unset, .unset, .unset, .unset, .unset, .unset, .unset, .unset, .unset] [(.long q2), (.int (1 : Int32)), (.ref b1), (.ref b1)]))
  obtain ⟨cl4, Ar4, qa4, Sa4, Ma4, Ha4, Ga4⟩ := id V3
  have hin4 : ¬ ((1 : Int32) < 0 ∨ cl4.slots.size ≤ ((1 : Int32)).toNatClampNeg) := inb_of Sa4 ⟨by decide, by decide⟩
  obtain ⟨T5, h5, X5, e5, W5, st5⟩ := stJ X3 hx hZ e3 Ar4 (j := (1 : Int32)) hin4 (g := (mkF m 55 #[.val (.long q1), .second, .val (.long q2), .second, .val (.long q3), .second, .val (.int p4), .val (.int p5), .val (.int p6), .val (.int ix), .val (.int ia), .val (.int (ix - ia)), .val (.int ib), .val (.int ic), .unset, .unset, .unset, .unset, .unset, .unset, .unset, .unset, .unset, .unset] [(.long q2), (.int (1 : Int32)), (.ref b1), (.ref b1)])) rfl rfl (hb hby at_55)
  have V5 : Arv Z h5 b1 k1 .long (3 : Int32) [(.long q1), (.long q2), (.long (0 : Int64))] (.long (0 : Int64)) := Arv.set Ar4 qa4 Sa4 Ma4 Ha4 Ga4 rfl W5 1 rfl (Nat.le_of_ble_eq_true rfl)
  have N5 := Fr.snoc X5 N3 g_b1
  have Z5 : n0 ≤ h5.size := Nat.le_trans Z3 (Keep.of_wr W5).1
  refine own_st st5 ?_
  show own_Go p e below K (T5.setTop (mkF m 56 #[.val (.long q1), .second, .val (.long q2), .second, .val (.long q3), .second, .val (.int p4), .val (.int p5), .val (.int p6), .val (.int ix), .val (.int ia), .val (.int (ix - ia)), .val (.int ib), .val (.int ic), .unset, .unset, .unset, .unset, .unset, .unset, .unset, .unset, .unset, .unset] [(.ref b1)]))
  refine own_st (fun t k => XS.dup X5.here hx rfl (hb hby at_56) rfl rfl k) ?_
  show own_Go p e below K (T5.setTop (mkF m 57 #[.val (.long q1), .second, .val (.long q2), .second, .val (.long q3), .second, .val (.int p4), .val (.int p5), .val (.int p6), .val (.int ix), .val (.int ia), .val (.int (ix - ia)), .val (.int ib), .val (.int ic), .unset, .unset, .unset, .unset, .unset, .unset, .unset, .unset, .unset, .unset] [(.ref b1), (.ref b1)]))
  refine own_st (fun t k => XS.iconst X5.here hx rfl (hb hby at_57) k) ?_
  show own_Go p e below K (T5.setTop (mkF m 58 #[.val (.long q1), .second, .val (.long q2), .second, .val (.long q3), .second, .val (.int p4), .val (.int p5), .val (.int p6), .val (.int ix), .val (.int ia), .val (.int (ix - ia)), .val (.int ib), .val (.int ic), .unset, .unset, .unset, .unset, .unset, .unset, .unset, .unset, .unset, .unset] [(.int (2 : Int32)), (.ref b1), (.ref b1)]))
  refine own_st (fun t k => XS.lload X5.here hx rfl (hb hby at_58) rfl k) ?_
  show own_Go p e below K (T5.setTop (mkF m 60 #[.val (.long q1), .second, .val (.long q2), .second, .val (.long q3), .second, .val (.int p4), .val (.int p5), .val (.int p6), .val (.int ix), .val (.int ia), .val (.int (ix - ia)), .val (.int ib), .val (.int ic), .unset, .unset, .unset, .unset, .unset, .unset, .unset, .unset, .unset, .unset] [(.long q3), (.int (2 : Int32)), (.ref b1), (.ref b1)]))
  obtain ⟨cl6, Ar6, qa6, Sa6, Ma6, Ha6, Ga6⟩ := id V5
  have hin6 : ¬ ((2 : Int32) < 0 ∨ cl6.slots.size ≤ ((2 : Int32)).toNatClampNeg) := inb_of Sa6 ⟨by decide, by decide⟩
  obtain ⟨T7, h7, X7, e7, W7, st7⟩ := stJ X5 hx hZ e5 Ar6 (j := (2 : Int32)) hin6 (g := (mkF m 60 #[.val (.long q1), .second, .val (.long q2), .second, .val (.long q3), .second, .val (.int p4), .val (.int p5), .val (.int p6), .val (.int ix), .val (.int ia), .val (.int (ix - ia)), .val (.int ib), .val (.int ic), .unset, .unset, .unset, .unset, .unset, .unset, .unset, .unset, .unset, .unset] [(.long q3), (.int (2 : Int32)), (.ref b1), (.ref b1)])) rfl rfl (hb hby at_60)
  have V7 : Arv Z h7 b1 k1 .long (3 : Int32) [(.long q1), (.long q2), (.long q3)] (.long (0 : Int64)) := Arv.set Ar6 qa6 Sa6 Ma6 Ha6 Ga6 rfl W7 2 rfl (Nat.le_of_ble_eq_true rfl)
  have N7 := Fr.snoc X7 N5 g_b1
  have Z7 : n0 ≤ h7.size := Nat.le_trans Z5 (Keep.of_wr W7).1
  refine own_st st7 ?_
  show own_Go p e below K (T7.setTop (mkF m 61 #[.val (.long q1), .second, .val (.long q2), .second, .val (.long q3), .second, .val (.int p4), .val (.int p5), .val (.int p6), .val (.int ix), .val (.int ia), .val (.int (ix - ia)), .val (.int ib), .val (.int ic), .unset, .unset, .unset, .unset, .unset, .unset, .unset, .unset, .unset, .unset] [(.ref b1)]))
  refine own_st (fun t k => XS.astore X7.here hx rfl (hb hby at_61) rfl rfl (l' := #[.val (.long q1), .second, .val (.long q2), .second, .val (.long q3), .second, .val (.int p4), .val (.int p5), .val (.int p6), .val (.int ix), .val (.int ia), .val (.int (ix - ia)), .val (.int ib), .val (.int ic), .val (.ref b1), .unset, .unset, .unset, .unset, .unset, .unset, .unset, .unset, .unset]) rfl k) ?_
  show own_Go p e below K (T7.setTop (mkF m 63 #[.val (.long q1), .second, .val (.long q2), .second, .val (.long q3), .second, .val (.int p4), .val (.int p5), .val (.int p6), .val (.int ix), .val (.int ia), .val (.int (ix - ia)), .val (.int ib), .val (.int ic), .val (.ref b1), .unset, .unset, .unset, .unset, .unset, .unset, .unset, .unset, .unset] []))
  refine own_st (fun t k => XS.aload X7.here hx rfl (hb hby at_63) rfl rfl k) ?_
  show own_Go p e below K (T7.setTop (mkF m 65 #[.val (.long q1), .second, .val (.long q2), .second, .val (.long q3), .second, .val (.int p4), .val (.int p5), .val (.int p6), .val (.int ix), .val (.int ia), .val (.int (ix - ia)), .val (.int ib), .val (.int ic), .val (.ref b1), .unset, .unset, .unset, .unset, .unset, .unset, .unset, .unset, .unset] [(.ref b1)]))
  refine own_st (fun t k => XS.iload X7.here hx rfl (hb hby at_65) rfl k) ?_
  show own_Go p e below K (T7.setTop (mkF m 67 #[.val (.long q1), .second, .val (.long q2), .second, .val (.long q3), .second, .val (.int p4), .val (.int p5), .val (.int p6), .val (.int ix), .val (.int ia), .val (.int (ix - ia)), .val (.int ib), .val (.int ic), .val (.ref b1), .unset, .unset, .unset, .unset, .unset, .unset, .unset, .unset, .unset] [(.int ia), (.ref b1)]))
  refine own_st (fun t k => XS.iload X7.here hx rfl (hb hby at_67) rfl k) ?_
  show own_Go p e below K (T7.setTop (mkF m 69 #[.val (.long q1), .second, .val (.long q2), .second, .val (.long q3), .second, .val (.int p4), .val (.int p5), .val (.int p6), .val (.int ix), .val (.int ia), .val (.int (ix - ia)), .val (.int ib), .val (.int ic), .val (.ref b1), .unset, .unset, .unset, .unset, .unset, .unset, .unset, .unset, .unset] [(.int ic), (.int ia), (.ref b1)]))
  obtain ⟨_, _, ⟨T8, L8, k8, n8⟩, -, X8, ⟨Lc8, hQ8, l8, y8, z8⟩, st8⟩ := Jvm.LawKit.callS X7 hx (y := (⟨"com/example/slotwright/slotwright/instance/CourseSet", "remove", "([JII)V"⟩ : MethodName)) hown (mvT hZ (hw _ (List.mem_of_getElem? (i := 2) rfl))) (mvT hZ (hw _ (List.mem_of_getElem? (i := 3) rfl))) (mvT hZ (hw _ (List.mem_of_getElem? (i := 4) rfl))) (mvT hZ (hw _ (List.mem_of_getElem? (i := 5) rfl))) (by decide) (backOf (W := 0) (rm1 l Z a0 hw [] b1 ia ic (k1) ((3 : Int32)) ([q1, q2, q3]) h7 n0 Z7 g_b1 V7 (by rw [Ix]; exact own_nlt Bx.1) (by rw [Ix]; exact own_lt Bx.2) (by rw [Ix, own_cl (i := ix.toInt.toNat) (by omega)]; show _ < 3; omega)) hZ (hw _ (List.mem_of_getElem? (i := 5) rfl)) (hw _ (List.mem_of_getElem? (i := 4) rfl)) (by decide) (by decide)) (g := (mkF m 69 #[.val (.long q1), .second, .val (.long q2), .second, .val (.long q3), .second, .val (.int p4), .val (.int p5), .val (.int p6), .val (.int ix), .val (.int ia), .val (.int (ix - ia)), .val (.int ib), .val (.int ic), .val (.ref b1), .unset, .unset, .unset, .unset, .unset, .unset, .unset, .unset, .unset] [(.int ic), (.int ia), (.ref b1)])) rfl (by rw [hml]; rfl) (argsL := [(.ref b1), (.int ia), (.int ic)]) (rest := []) (lenOf pd_0_0 rfl) rfl (by show 2 * 0 + _ ≤ _; exact Nat.le_of_eq rfl) (hb hby at_69) (fun _ _ => ⟨rfl, e7, (by decide : 1 + 0 ≤ _), (by decide : 3 + 0 ≤ _)⟩)
  dsimp only [Pt.U, Pt.locs, Pt.cells, Pt.slots] at X8 l8 y8 z8 st8 hQ8
  subst l8 y8 z8
  obtain ⟨rfl, N8q, Kq8, p8_0⟩ := hQ8
  have N8 := Fr.app N7 N8q
  have Z8 : n0 ≤ T8.heap.size := Nat.le_trans Z7 Kq8.1
  refine own_st st8 ?_
  show own_Go p e below K (T8.setTop (mkF m 72 #[.val (.long q1), .second, .val (.long q2), .second, .val (.long q3), .second, .val (.int p4), .val (.int p5), .val (.int p6), .val (.int ix), .val (.int ia), .val (.int (ix - ia)), .val (.int ib), .val (.int ic), .val (.ref b1), .unset, .unset, .unset, .unset, .unset, .unset, .unset, .unset, .unset] []))
  rcases own_three Bx with hs | hs | hs
  · subst hs
    show own_Go p e below K (T8.setTop (mkF m 72 #[.val (.long q1), .second, .val (.long q2), .second, .val (.long q3), .second, .val (.int p4), .val (.int p5), .val (.int p6), .val (.int (0 : Int32)), .val (.int ia), .val (.int ((0 : Int32) - ia)), .val (.int ib), .val (.int ic), .val (.ref b1), .unset, .unset, .unset, .unset, .unset, .unset, .unset, .unset, .unset] []))
    have VV : Arv Z T8.heap b1 k1 .long (3 : Int32) [(.long (q1 &&& (((1 : Int64) <<< (ib &&& 0x3f).toInt64) ^^^ (-1 : Int64)))), (.long q2), (.long q3)] (.long (0 : Int64)) := by
      have q := p8_0
      rw [Ix, Ib] at q
      exact q
    refine own_st (fun t k => XS.lconst X8.here hx rfl (hb hby at_72) k) ?_
    show own_Go p e below K (T8.setTop (mkF m 73 #[.val (.long q1), .second, .val (.long q2), .second, .val (.long q3), .second, .val (.int p4), .val (.int p5), .val (.int p6), .val (.int (0 : Int32)), .val (.int ia), .val (.int ((0 : Int32) - ia)), .val (.int ib), .val (.int ic), .val (.ref b1), .unset, .unset, .unset, .unset, .unset, .unset, .unset, .unset, .unset] [(.long (1 : Int64))]))
    refine own_st (fun t k => XS.iload X8.here hx rfl (hb hby at_73) rfl k) ?_
    show own_Go p e below K (T8.setTop (mkF m 75 #[.val (.long q1), .second, .val (.long q2), .second, .val (.long q3), .second, .val (.int p4), .val (.int p5), .val (.int p6), .val (.int (0 : Int32)), .val (.int ia), .val (.int ((0 : Int32) - ia)), .val (.int ib), .val (.int ic), .val (.ref b1), .unset, .unset, .unset, .unset, .unset, .unset, .unset, .unset, .unset] [(.int ib), (.long (1 : Int64))]))
    refine own_st (fun t k => XS.lshl X8.here hx rfl (hb hby at_75) rfl k) ?_
    show own_Go p e below K (T8.setTop (mkF m 76 #[.val (.long q1), .second, .val (.long q2), .second, .val (.long q3), .second, .val (.int p4), .val (.int p5), .val (.int p6), .val (.int (0 : Int32)), .val (.int ia), .val (.int ((0 : Int32) - ia)), .val (.int ib), .val (.int ic), .val (.ref b1), .unset, .unset, .unset, .unset, .unset, .unset, .unset, .unset, .unset] [(.long ((1 : Int64) <<< (ib &&& 0x3f).toInt64))]))
    refine own_st (fun t k => XS.lstore X8.here hx rfl (hb hby at_76) rfl (l' := #[.val (.long q1), .second, .val (.long q2), .second, .val (.long q3), .second, .val (.int p4), .val (.int p5), .val (.int p6), .val (.int (0 : Int32)), .val (.int ia), .val (.int ((0 : Int32) - ia)), .val (.int ib), .val (.int ic), .val (.ref b1), .val (.long ((1 : Int64) <<< (ib &&& 0x3f).toInt64)), .second, .unset, .unset, .unset, .unset, .unset, .unset, .unset]) rfl k) ?_
    show own_Go p e below K (T8.setTop (mkF m 78 #[.val (.long q1), .second, .val (.long q2), .second, .val (.long q3), .second, .val (.int p4), .val (.int p5), .val (.int p6), .val (.int (0 : Int32)), .val (.int ia), .val (.int ((0 : Int32) - ia)), .val (.int ib), .val (.int ic), .val (.ref b1), .val (.long ((1 : Int64) <<< (ib &&& 0x3f).toInt64)), .second, .unset, .unset, .unset, .unset, .unset, .unset, .unset] []))
    refine own_st (fun t k => XS.iload X8.here hx rfl (hb hby at_78) rfl k) ?_
    show own_Go p e below K (T8.setTop (mkF m 80 #[.val (.long q1), .second, .val (.long q2), .second, .val (.long q3), .second, .val (.int p4), .val (.int p5), .val (.int p6), .val (.int (0 : Int32)), .val (.int ia), .val (.int ((0 : Int32) - ia)), .val (.int ib), .val (.int ic), .val (.ref b1), .val (.long ((1 : Int64) <<< (ib &&& 0x3f).toInt64)), .second, .unset, .unset, .unset, .unset, .unset, .unset, .unset] [(.int (0 : Int32))]))
    refine own_st (fun t k => XS.ifNo X8.here hx rfl (hb hby at_80) rfl ((if0 _ _).trans (teq (by decide : (0 : Int32) = (0 : Int32))).2) k) ?_
    show own_Go p e below K (T8.setTop (mkF m 83 #[.val (.long q1), .second, .val (.long q2), .second, .val (.long q3), .second, .val (.int p4), .val (.int p5), .val (.int p6), .val (.int (0 : Int32)), .val (.int ia), .val (.int ((0 : Int32) - ia)), .val (.int ib), .val (.int ic), .val (.ref b1), .val (.long ((1 : Int64) <<< (ib &&& 0x3f).toInt64)), .second, .unset, .unset, .unset, .unset, .unset, .unset, .unset] []))
    refine own_st (fun t k => XS.lloadN X8.here hx rfl (hb hby at_83) rfl k) ?_
    show own_Go p e below K (T8.setTop (mkF m 84 #[.val (.long q1), .second, .val (.long q2), .second, .val (.long q3), .second, .val (.int p4), .val (.int p5), .val (.int p6), .val (.int (0 : Int32)), .val (.int ia), .val (.int ((0 : Int32) - ia)), .val (.int ib), .val (.int ic), .val (.ref b1), .val (.long ((1 : Int64) <<< (ib &&& 0x3f).toInt64)), .second, .unset, .unset, .unset, .unset, .unset, .unset, .unset] [(.long q1)]))
    refine own_st (fun t k => XS.goto X8.here hx rfl (pc0 := 84) (pc' := 99) rfl (hb hby at_84) (by decide) (by decide) k) ?_
    show own_Go p e below K (T8.setTop (mkF m 99 #[.val (.long q1), .second, .val (.long q2), .second, .val (.long q3), .second, .val (.int p4), .val (.int p5), .val (.int p6), .val (.int (0 : Int32)), .val (.int ia), .val (.int ((0 : Int32) - ia)), .val (.int ib), .val (.int ic), .val (.ref b1), .val (.long ((1 : Int64) <<< (ib &&& 0x3f).toInt64)), .second, .unset, .unset, .unset, .unset, .unset, .unset, .unset] [(.long q1)]))
    refine own_st (fun t k => XS.lstore X8.here hx rfl (hb hby at_99) rfl (l' := #[.val (.long q1), .second, .val (.long q2), .second, .val (.long q3), .second, .val (.int p4), .val (.int p5), .val (.int p6), .val (.int (0 : Int32)), .val (.int ia), .val (.int ((0 : Int32) - ia)), .val (.int ib), .val (.int ic), .val (.ref b1), .val (.long ((1 : Int64) <<< (ib &&& 0x3f).toInt64)), .second, .val (.long q1), .second, .unset, .unset, .unset, .unset, .unset]) rfl k) ?_
    show own_Go p e below K (T8.setTop (mkF m 101 #[.val (.long q1), .second, .val (.long q2), .second, .val (.long q3), .second, .val (.int p4), .val (.int p5), .val (.int p6), .val (.int (0 : Int32)), .val (.int ia), .val (.int ((0 : Int32) - ia)), .val (.int ib), .val (.int ic), .val (.ref b1), .val (.long ((1 : Int64) <<< (ib &&& 0x3f).toInt64)), .second, .val (.long q1), .second, .unset, .unset, .unset, .unset, .unset] []))
    refine own_st (fun t k => XS.aload X8.here hx rfl (hb hby at_101) rfl rfl k) ?_
    show own_Go p e below K (T8.setTop (mkF m 103 #[.val (.long q1), .second, .val (.long q2), .second, .val (.long q3), .second, .val (.int p4), .val (.int p5), .val (.int p6), .val (.int (0 : Int32)), .val (.int ia), .val (.int ((0 : Int32) - ia)), .val (.int ib), .val (.int ic), .val (.ref b1), .val (.long ((1 : Int64) <<< (ib &&& 0x3f).toInt64)), .second, .val (.long q1), .second, .unset, .unset, .unset, .unset, .unset] [(.ref b1)]))
    refine own_st (fun t k => XS.iload X8.here hx rfl (hb hby at_103) rfl k) ?_
    show own_Go p e below K (T8.setTop (mkF m 105 #[.val (.long q1), .second, .val (.long q2), .second, .val (.long q3), .second, .val (.int p4), .val (.int p5), .val (.int p6), .val (.int (0 : Int32)), .val (.int ia), .val (.int ((0 : Int32) - ia)), .val (.int ib), .val (.int ic), .val (.ref b1), .val (.long ((1 : Int64) <<< (ib &&& 0x3f).toInt64)), .second, .val (.long q1), .second, .unset, .unset, .unset, .unset, .unset] [(.int (0 : Int32)), (.ref b1)]))
    obtain ⟨cl9, Ar9, qa9, Sa9, Ma9, Ha9, Ga9⟩ := id VV
    have hin9 : ¬ ((0 : Int32) < 0 ∨ cl9.slots.size ≤ ((0 : Int32)).toNatClampNeg) := inb_of Sa9 ⟨by decide, by decide⟩
    refine own_st (X8.laload hx (j := (0 : Int32)) (v := (.long (q1 &&& (((1 : Int64) <<< (ib &&& 0x3f).toInt64) ^^^ (-1 : Int64))))) (own_hat rfl Ar9.1) (State.isArrayOf_alike hZ.alike Ar9.2.1) Ar9.2.2 hin9 (Has.at Ha9 hin9 rfl) (g := (mkF m 105 #[.val (.long q1), .second, .val (.long q2), .second, .val (.long q3), .second, .val (.int p4), .val (.int p5), .val (.int p6), .val (.int (0 : Int32)), .val (.int ia), .val (.int ((0 : Int32) - ia)), .val (.int ib), .val (.int ic), .val (.ref b1), .val (.long ((1 : Int64) <<< (ib &&& 0x3f).toInt64)), .second, .val (.long q1), .second, .unset, .unset, .unset, .unset, .unset] [(.int (0 : Int32)), (.ref b1)])) rfl rfl (hb hby at_105)) ?_
    show own_Go p e below K (T8.setTop (mkF m 106 #[.val (.long q1), .second, .val (.long q2), .second, .val (.long q3), .second, .val (.int p4), .val (.int p5), .val (.int p6), .val (.int (0 : Int32)), .val (.int ia), .val (.int ((0 : Int32) - ia)), .val (.int ib), .val (.int ic), .val (.ref b1), .val (.long ((1 : Int64) <<< (ib &&& 0x3f).toInt64)), .second, .val (.long q1), .second, .unset, .unset, .unset, .unset, .unset] [(.long (q1 &&& (((1 : Int64) <<< (ib &&& 0x3f).toInt64) ^^^ (-1 : Int64))))]))
    refine own_st (fun t k => XS.lstore X8.here hx rfl (hb hby at_106) rfl (l' := #[.val (.long q1), .second, .val (.long q2), .second, .val (.long q3), .second, .val (.int p4), .val (.int p5), .val (.int p6), .val (.int (0 : Int32)), .val (.int ia), .val (.int ((0 : Int32) - ia)), .val (.int ib), .val (.int ic), .val (.ref b1), .val (.long ((1 : Int64) <<< (ib &&& 0x3f).toInt64)), .second, .val (.long q1), .second, .val (.long (q1 &&& (((1 : Int64) <<< (ib &&& 0x3f).toInt64) ^^^ (-1 : Int64)))), .second, .unset, .unset, .unset]) rfl k) ?_
    show own_Go p e below K (T8.setTop (mkF m 108 #[.val (.long q1), .second, .val (.long q2), .second, .val (.long q3), .second, .val (.int p4), .val (.int p5), .val (.int p6), .val (.int (0 : Int32)), .val (.int ia), .val (.int ((0 : Int32) - ia)), .val (.int ib), .val (.int ic), .val (.ref b1), .val (.long ((1 : Int64) <<< (ib &&& 0x3f).toInt64)), .second, .val (.long q1), .second, .val (.long (q1 &&& (((1 : Int64) <<< (ib &&& 0x3f).toInt64) ^^^ (-1 : Int64)))), .second, .unset, .unset, .unset] []))
    refine own_st (fun t k => XS.lload X8.here hx rfl (hb hby at_108) rfl k) ?_
    show own_Go p e below K (T8.setTop (mkF m 110 #[.val (.long q1), .second, .val (.long q2), .second, .val (.long q3), .second, .val (.int p4), .val (.int p5), .val (.int p6), .val (.int (0 : Int32)), .val (.int ia), .val (.int ((0 : Int32) - ia)), .val (.int ib), .val (.int ic), .val (.ref b1), .val (.long ((1 : Int64) <<< (ib &&& 0x3f).toInt64)), .second, .val (.long q1), .second, .val (.long (q1 &&& (((1 : Int64) <<< (ib &&& 0x3f).toInt64) ^^^ (-1 : Int64)))), .second, .unset, .unset, .unset] [(.long (q1 &&& (((1 : Int64) <<< (ib &&& 0x3f).toInt64) ^^^ (-1 : Int64))))]))
    refine own_st (fun t k => XS.iload X8.here hx rfl (hb hby at_110) rfl k) ?_
    show own_Go p e below K (T8.setTop (mkF m 112 #[.val (.long q1), .second, .val (.long q2), .second, .val (.long q3), .second, .val (.int p4), .val (.int p5), .val (.int p6), .val (.int (0 : Int32)), .val (.int ia), .val (.int ((0 : Int32) - ia)), .val (.int ib), .val (.int ic), .val (.ref b1), .val (.long ((1 : Int64) <<< (ib &&& 0x3f).toInt64)), .second, .val (.long q1), .second, .val (.long (q1 &&& (((1 : Int64) <<< (ib &&& 0x3f).toInt64) ^^^ (-1 : Int64)))), .second, .unset, .unset, .unset] [(.int ib), (.long (q1 &&& (((1 : Int64) <<< (ib &&& 0x3f).toInt64) ^^^ (-1 : Int64))))]))
    refine own_st (fun t k => XS.lushr X8.here hx rfl (hb hby at_112) rfl k) ?_
    show own_Go p e below K (T8.setTop (mkF m 113 #[.val (.long q1), .second, .val (.long q2), .second, .val (.long q3), .second, .val (.int p4), .val (.int p5), .val (.int p6), .val (.int (0 : Int32)), .val (.int ia), .val (.int ((0 : Int32) - ia)), .val (.int ib), .val (.int ic), .val (.ref b1), .val (.long ((1 : Int64) <<< (ib &&& 0x3f).toInt64)), .second, .val (.long q1), .second, .val (.long (q1 &&& (((1 : Int64) <<< (ib &&& 0x3f).toInt64) ^^^ (-1 : Int64)))), .second, .unset, .unset, .unset] [(.long (((q1 &&& (((1 : Int64) <<< (ib &&& 0x3f).toInt64) ^^^ (-1 : Int64))).toUInt64 >>> (ib &&& 0x3f).toInt64.toUInt64).toInt64))]))
    refine own_st (fun t k => XS.lconst X8.here hx rfl (hb hby at_113) k) ?_
    show own_Go p e below K (T8.setTop (mkF m 114 #[.val (.long q1), .second, .val (.long q2), .second, .val (.long q3), .second, .val (.int p4), .val (.int p5), .val (.int p6), .val (.int (0 : Int32)), .val (.int ia), .val (.int ((0 : Int32) - ia)), .val (.int ib), .val (.int ic), .val (.ref b1), .val (.long ((1 : Int64) <<< (ib &&& 0x3f).toInt64)), .second, .val (.long q1), .second, .val (.long (q1 &&& (((1 : Int64) <<< (ib &&& 0x3f).toInt64) ^^^ (-1 : Int64)))), .second, .unset, .unset, .unset] [(.long (1 : Int64)), (.long (((q1 &&& (((1 : Int64) <<< (ib &&& 0x3f).toInt64) ^^^ (-1 : Int64))).toUInt64 >>> (ib &&& 0x3f).toInt64.toUInt64).toInt64))]))
    refine own_st (fun t k => XS.land X8.here hx rfl (hb hby at_114) rfl k) ?_
    show own_Go p e below K (T8.setTop (mkF m 115 #[.val (.long q1), .second, .val (.long q2), .second, .val (.long q3), .second, .val (.int p4), .val (.int p5), .val (.int p6), .val (.int (0 : Int32)), .val (.int ia), .val (.int ((0 : Int32) - ia)), .val (.int ib), .val (.int ic), .val (.ref b1), .val (.long ((1 : Int64) <<< (ib &&& 0x3f).toInt64)), .second, .val (.long q1), .second, .val (.long (q1 &&& (((1 : Int64) <<< (ib &&& 0x3f).toInt64) ^^^ (-1 : Int64)))), .second, .unset, .unset, .unset] [(.long ((((q1 &&& (((1 : Int64) <<< (ib &&& 0x3f).toInt64) ^^^ (-1 : Int64))).toUInt64 >>> (ib &&& 0x3f).toInt64.toUInt64).toInt64) &&& (1 : Int64)))]))
    refine own_st (fun t k => XS.lconst X8.here hx rfl (hb hby at_115) k) ?_
    show own_Go p e below K (T8.setTop (mkF m 116 #[.val (.long q1), .second, .val (.long q2), .second, .val (.long q3), .second, .val (.int p4), .val (.int p5), .val (.int p6), .val (.int (0 : Int32)), .val (.int ia), .val (.int ((0 : Int32) - ia)), .val (.int ib), .val (.int ic), .val (.ref b1), .val (.long ((1 : Int64) <<< (ib &&& 0x3f).toInt64)), .second, .val (.long q1), .second, .val (.long (q1 &&& (((1 : Int64) <<< (ib &&& 0x3f).toInt64) ^^^ (-1 : Int64)))), .second, .unset, .unset, .unset] [(.long (0 : Int64)), (.long ((((q1 &&& (((1 : Int64) <<< (ib &&& 0x3f).toInt64) ^^^ (-1 : Int64))).toUInt64 >>> (ib &&& 0x3f).toInt64.toUInt64).toInt64) &&& (1 : Int64)))]))
    refine own_st (fun t k => XS.lcmp X8.here hx rfl (hb hby at_116) rfl k) ?_
    show own_Go p e below K (T8.setTop (mkF m 117 #[.val (.long q1), .second, .val (.long q2), .second, .val (.long q3), .second, .val (.int p4), .val (.int p5), .val (.int p6), .val (.int (0 : Int32)), .val (.int ia), .val (.int ((0 : Int32) - ia)), .val (.int ib), .val (.int ic), .val (.ref b1), .val (.long ((1 : Int64) <<< (ib &&& 0x3f).toInt64)), .second, .val (.long q1), .second, .val (.long (q1 &&& (((1 : Int64) <<< (ib &&& 0x3f).toInt64) ^^^ (-1 : Int64)))), .second, .unset, .unset, .unset] [(.int (lcmpW ((((q1 &&& (((1 : Int64) <<< (ib &&& 0x3f).toInt64) ^^^ (-1 : Int64))).toUInt64 >>> (ib &&& 0x3f).toInt64.toUInt64).toInt64) &&& (1 : Int64)) (0 : Int64)))]))
    refine own_st (fun t k => XS.ifNo X8.here hx rfl (hb hby at_117) rfl ((if0 _ _).trans (teq ((lw_eq _ _).mpr (own_clr _ _ : ((((q1 &&& (((1 : Int64) <<< (ib &&& 0x3f).toInt64) ^^^ (-1 : Int64))).toUInt64 >>> (ib &&& 0x3f).toInt64.toUInt64).toInt64) &&& (1 : Int64)) = (0 : Int64)))).2) k) ?_
    show own_Go p e below K (T8.setTop (mkF m 120 #[.val (.long q1), .second, .val (.long q2), .second, .val (.long q3), .second, .val (.int p4), .val (.int p5), .val (.int p6), .val (.int (0 : Int32)), .val (.int ia), .val (.int ((0 : Int32) - ia)), .val (.int ib), .val (.int ic), .val (.ref b1), .val (.long ((1 : Int64) <<< (ib &&& 0x3f).toInt64)), .second, .val (.long q1), .second, .val (.long (q1 &&& (((1 : Int64) <<< (ib &&& 0x3f).toInt64) ^^^ (-1 : Int64)))), .second, .unset, .unset, .unset] []))
    refine own_st (fun t k => XS.iconst X8.here hx rfl (hb hby at_120) k) ?_
    show own_Go p e below K (T8.setTop (mkF m 121 #[.val (.long q1), .second, .val (.long q2), .second, .val (.long q3), .second, .val (.int p4), .val (.int p5), .val (.int p6), .val (.int (0 : Int32)), .val (.int ia), .val (.int ((0 : Int32) - ia)), .val (.int ib), .val (.int ic), .val (.ref b1), .val (.long ((1 : Int64) <<< (ib &&& 0x3f).toInt64)), .second, .val (.long q1), .second, .val (.long (q1 &&& (((1 : Int64) <<< (ib &&& 0x3f).toInt64) ^^^ (-1 : Int64)))), .second, .unset, .unset, .unset] [(.int (1 : Int32))]))
    refine own_st (fun t k => XS.goto X8.here hx rfl (pc0 := 121) (pc' := 125) rfl (hb hby at_121) (by decide) (by decide) k) ?_
    show own_Go p e below K (T8.setTop (mkF m 125 #[.val (.long q1), .second, .val (.long q2), .second, .val (.long q3), .second, .val (.int p4), .val (.int p5), .val (.int p6), .val (.int (0 : Int32)), .val (.int ia), .val (.int ((0 : Int32) - ia)), .val (.int ib), .val (.int ic), .val (.ref b1), .val (.long ((1 : Int64) <<< (ib &&& 0x3f).toInt64)), .second, .val (.long q1), .second, .val (.long (q1 &&& (((1 : Int64) <<< (ib &&& 0x3f).toInt64) ^^^ (-1 : Int64)))), .second, .unset, .unset, .unset] [(.int (1 : Int32))]))
    refine own_st (fun t k => XS.istore X8.here hx rfl (hb hby at_125) rfl (l' := #[.val (.long q1), .second, .val (.long q2), .second, .val (.long q3), .second, .val (.int p4), .val (.int p5), .val (.int p6), .val (.int (0 : Int32)), .val (.int ia), .val (.int ((0 : Int32) - ia)), .val (.int ib), .val (.int ic), .val (.ref b1), .val (.long ((1 : Int64) <<< (ib &&& 0x3f).toInt64)), .second, .val (.long q1), .second, .val (.long (q1 &&& (((1 : Int64) <<< (ib &&& 0x3f).toInt64) ^^^ (-1 : Int64)))), .second, .val (.int (1 : Int32)), .unset, .unset]) rfl k) ?_
    show own_Go p e below K (T8.setTop (mkF m 127 #[.val (.long q1), .second, .val (.long q2), .second, .val (.long q3), .second, .val (.int p4), .val (.int p5), .val (.int p6), .val (.int (0 : Int32)), .val (.int ia), .val (.int ((0 : Int32) - ia)), .val (.int ib), .val (.int ic), .val (.ref b1), .val (.long ((1 : Int64) <<< (ib &&& 0x3f).toInt64)), .second, .val (.long q1), .second, .val (.long (q1 &&& (((1 : Int64) <<< (ib &&& 0x3f).toInt64) ^^^ (-1 : Int64)))), .second, .val (.int (1 : Int32)), .unset, .unset] []))
    refine own_st (fun t k => XS.lload X8.here hx rfl (hb hby at_127) rfl k) ?_
    show own_Go p e below K (T8.setTop (mkF m 129 #[.val (.long q1), .second, .val (.long q2), .second, .val (.long q3), .second, .val (.int p4), .val (.int p5), .val (.int p6), .val (.int (0 : Int32)), .val (.int ia), .val (.int ((0 : Int32) - ia)), .val (.int ib), .val (.int ic), .val (.ref b1), .val (.long ((1 : Int64) <<< (ib &&& 0x3f).toInt64)), .second, .val (.long q1), .second, .val (.long (q1 &&& (((1 : Int64) <<< (ib &&& 0x3f).toInt64) ^^^ (-1 : Int64)))), .second, .val (.int (1 : Int32)), .unset, .unset] [(.long (q1 &&& (((1 : Int64) <<< (ib &&& 0x3f).toInt64) ^^^ (-1 : Int64))))]))
    refine own_st (fun t k => XS.lload X8.here hx rfl (hb hby at_129) rfl k) ?_
    show own_Go p e below K (T8.setTop (mkF m 131 #[.val (.long q1), .second, .val (.long q2), .second, .val (.long q3), .second, .val (.int p4), .val (.int p5), .val (.int p6), .val (.int (0 : Int32)), .val (.int ia), .val (.int ((0 : Int32) - ia)), .val (.int ib), .val (.int ic), .val (.ref b1), .val (.long ((1 : Int64) <<< (ib &&& 0x3f).toInt64)), .second, .val (.long q1), .second, .val (.long (q1 &&& (((1 : Int64) <<< (ib &&& 0x3f).toInt64) ^^^ (-1 : Int64)))), .second, .val (.int (1 : Int32)), .unset, .unset] [(.long ((1 : Int64) <<< (ib &&& 0x3f).toInt64)), (.long (q1 &&& (((1 : Int64) <<< (ib &&& 0x3f).toInt64) ^^^ (-1 : Int64))))]))
    refine own_st (fun t k => XS.lor X8.here hx rfl (hb hby at_131) rfl k) ?_
    show own_Go p e below K (T8.setTop (mkF m 132 #[.val (.long q1), .second, .val (.long q2), .second, .val (.long q3), .second, .val (.int p4), .val (.int p5), .val (.int p6), .val (.int (0 : Int32)), .val (.int ia), .val (.int ((0 : Int32) - ia)), .val (.int ib), .val (.int ic), .val (.ref b1), .val (.long ((1 : Int64) <<< (ib &&& 0x3f).toInt64)), .second, .val (.long q1), .second, .val (.long (q1 &&& (((1 : Int64) <<< (ib &&& 0x3f).toInt64) ^^^ (-1 : Int64)))), .second, .val (.int (1 : Int32)), .unset, .unset] [(.long ((q1 &&& (((1 : Int64) <<< (ib &&& 0x3f).toInt64) ^^^ (-1 : Int64))) ||| ((1 : Int64) <<< (ib &&& 0x3f).toInt64)))]))
    refine own_st (fun t k => XS.lload X8.here hx rfl (hb hby at_132) rfl k) ?_
    show own_Go p e below K (T8.setTop (mkF m 134 #[.val (.long q1), .second, .val (.long q2), .second, .val (.long q3), .second, .val (.int p4), .val (.int p5), .val (.int p6), .val (.int (0 : Int32)), .val (.int ia), .val (.int ((0 : Int32) - ia)), .val (.int ib), .val (.int ic), .val (.ref b1), .val (.long ((1 : Int64) <<< (ib &&& 0x3f).toInt64)), .second, .val (.long q1), .second, .val (.long (q1 &&& (((1 : Int64) <<< (ib &&& 0x3f).toInt64) ^^^ (-1 : Int64)))), .second, .val (.int (1 : Int32)), .unset, .unset] [(.long q1), (.long ((q1 &&& (((1 : Int64) <<< (ib &&& 0x3f).toInt64) ^^^ (-1 : Int64))) ||| ((1 : Int64) <<< (ib &&& 0x3f).toInt64)))]))
    refine own_st (fun t k => XS.lload X8.here hx rfl (hb hby at_134) rfl k) ?_
    show own_Go p e below K (T8.setTop (mkF m 136 #[.val (.long q1), .second, .val (.long q2), .second, .val (.long q3), .second, .val (.int p4), .val (.int p5), .val (.int p6), .val (.int (0 : Int32)), .val (.int ia), .val (.int ((0 : Int32) - ia)), .val (.int ib), .val (.int ic), .val (.ref b1), .val (.long ((1 : Int64) <<< (ib &&& 0x3f).toInt64)), .second, .val (.long q1), .second, .val (.long (q1 &&& (((1 : Int64) <<< (ib &&& 0x3f).toInt64) ^^^ (-1 : Int64)))), .second, .val (.int (1 : Int32)), .unset, .unset] [(.long ((1 : Int64) <<< (ib &&& 0x3f).toInt64)), (.long q1), (.long ((q1 &&& (((1 : Int64) <<< (ib &&& 0x3f).toInt64) ^^^ (-1 : Int64))) ||| ((1 : Int64) <<< (ib &&& 0x3f).toInt64)))]))
    refine own_st (fun t k => XS.lor X8.here hx rfl (hb hby at_136) rfl k) ?_
    show own_Go p e below K (T8.setTop (mkF m 137 #[.val (.long q1), .second, .val (.long q2), .second, .val (.long q3), .second, .val (.int p4), .val (.int p5), .val (.int p6), .val (.int (0 : Int32)), .val (.int ia), .val (.int ((0 : Int32) - ia)), .val (.int ib), .val (.int ic), .val (.ref b1), .val (.long ((1 : Int64) <<< (ib &&& 0x3f).toInt64)), .second, .val (.long q1), .second, .val (.long (q1 &&& (((1 : Int64) <<< (ib &&& 0x3f).toInt64) ^^^ (-1 : Int64)))), .second, .val (.int (1 : Int32)), .unset, .unset] [(.long (q1 ||| ((1 : Int64) <<< (ib &&& 0x3f).toInt64))), (.long ((q1 &&& (((1 : Int64) <<< (ib &&& 0x3f).toInt64) ^^^ (-1 : Int64))) ||| ((1 : Int64) <<< (ib &&& 0x3f).toInt64)))]))
    refine own_st (fun t k => XS.lcmp X8.here hx rfl (hb hby at_137) rfl k) ?_
    show own_Go p e below K (T8.setTop (mkF m 138 #[.val (.long q1), .second, .val (.long q2), .second, .val (.long q3), .second, .val (.int p4), .val (.int p5), .val (.int p6), .val (.int (0 : Int32)), .val (.int ia), .val (.int ((0 : Int32) - ia)), .val (.int ib), .val (.int ic), .val (.ref b1), .val (.long ((1 : Int64) <<< (ib &&& 0x3f).toInt64)), .second, .val (.long q1), .second, .val (.long (q1 &&& (((1 : Int64) <<< (ib &&& 0x3f).toInt64) ^^^ (-1 : Int64)))), .second, .val (.int (1 : Int32)), .unset, .unset] [(.int (lcmpW ((q1 &&& (((1 : Int64) <<< (ib &&& 0x3f).toInt64) ^^^ (-1 : Int64))) ||| ((1 : Int64) <<< (ib &&& 0x3f).toInt64)) (q1 ||| ((1 : Int64) <<< (ib &&& 0x3f).toInt64))))]))
    refine own_st (fun t k => XS.ifNo X8.here hx rfl (hb hby at_138) rfl ((if0 _ _).trans (teq ((lw_eq _ _).mpr (own_or _ _ : ((q1 &&& (((1 : Int64) <<< (ib &&& 0x3f).toInt64) ^^^ (-1 : Int64))) ||| ((1 : Int64) <<< (ib &&& 0x3f).toInt64)) = (q1 ||| ((1 : Int64) <<< (ib &&& 0x3f).toInt64))))).2) k) ?_
    show own_Go p e below K (T8.setTop (mkF m 141 #[.val (.long q1), .second, .val (.long q2), .second, .val (.long q3), .second, .val (.int p4), .val (.int p5), .val (.int p6), .val (.int (0 : Int32)), .val (.int ia), .val (.int ((0 : Int32) - ia)), .val (.int ib), .val (.int ic), .val (.ref b1), .val (.long ((1 : Int64) <<< (ib &&& 0x3f).toInt64)), .second, .val (.long q1), .second, .val (.long (q1 &&& (((1 : Int64) <<< (ib &&& 0x3f).toInt64) ^^^ (-1 : Int64)))), .second, .val (.int (1 : Int32)), .unset, .unset] []))
    refine own_st (fun t k => XS.iconst X8.here hx rfl (hb hby at_141) k) ?_
    show own_Go p e below K (T8.setTop (mkF m 142 #[.val (.long q1), .second, .val (.long q2), .second, .val (.long q3), .second, .val (.int p4), .val (.int p5), .val (.int p6), .val (.int (0 : Int32)), .val (.int ia), .val (.int ((0 : Int32) - ia)), .val (.int ib), .val (.int ic), .val (.ref b1), .val (.long ((1 : Int64) <<< (ib &&& 0x3f).toInt64)), .second, .val (.long q1), .second, .val (.long (q1 &&& (((1 : Int64) <<< (ib &&& 0x3f).toInt64) ^^^ (-1 : Int64)))), .second, .val (.int (1 : Int32)), .unset, .unset] [(.int (1 : Int32))]))
    refine own_st (fun t k => XS.goto X8.here hx rfl (pc0 := 142) (pc' := 146) rfl (hb hby at_142) (by decide) (by decide) k) ?_
    show own_Go p e below K (T8.setTop (mkF m 146 #[.val (.long q1), .second, .val (.long q2), .second, .val (.long q3), .second, .val (.int p4), .val (.int p5), .val (.int p6), .val (.int (0 : Int32)), .val (.int ia), .val (.int ((0 : Int32) - ia)), .val (.int ib), .val (.int ic), .val (.ref b1), .val (.long ((1 : Int64) <<< (ib &&& 0x3f).toInt64)), .second, .val (.long q1), .second, .val (.long (q1 &&& (((1 : Int64) <<< (ib &&& 0x3f).toInt64) ^^^ (-1 : Int64)))), .second, .val (.int (1 : Int32)), .unset, .unset] [(.int (1 : Int32))]))
    refine own_st (fun t k => XS.istore X8.here hx rfl (hb hby at_146) rfl (l' := #[.val (.long q1), .second, .val (.long q2), .second, .val (.long q3), .second, .val (.int p4), .val (.int p5), .val (.int p6), .val (.int (0 : Int32)), .val (.int ia), .val (.int ((0 : Int32) - ia)), .val (.int ib), .val (.int ic), .val (.ref b1), .val (.long ((1 : Int64) <<< (ib &&& 0x3f).toInt64)), .second, .val (.long q1), .second, .val (.long (q1 &&& (((1 : Int64) <<< (ib &&& 0x3f).toInt64) ^^^ (-1 : Int64)))), .second, .val (.int (1 : Int32)), .val (.int (1 : Int32)), .unset]) rfl k) ?_
    show own_Go p e below K (T8.setTop (mkF m 148 #[.val (.long q1), .second, .val (.long q2), .second, .val (.long q3), .second, .val (.int p4), .val (.int p5), .val (.int p6), .val (.int (0 : Int32)), .val (.int ia), .val (.int ((0 : Int32) - ia)), .val (.int ib), .val (.int ic), .val (.ref b1), .val (.long ((1 : Int64) <<< (ib &&& 0x3f).toInt64)), .second, .val (.long q1), .second, .val (.long (q1 &&& (((1 : Int64) <<< (ib &&& 0x3f).toInt64) ^^^ (-1 : Int64)))), .second, .val (.int (1 : Int32)), .val (.int (1 : Int32)), .unset] []))
    refine own_st (fun t k => XS.iload X8.here hx rfl (hb hby at_148) rfl k) ?_
    show own_Go p e below K (T8.setTop (mkF m 150 #[.val (.long q1), .second, .val (.long q2), .second, .val (.long q3), .second, .val (.int p4), .val (.int p5), .val (.int p6), .val (.int (0 : Int32)), .val (.int ia), .val (.int ((0 : Int32) - ia)), .val (.int ib), .val (.int ic), .val (.ref b1), .val (.long ((1 : Int64) <<< (ib &&& 0x3f).toInt64)), .second, .val (.long q1), .second, .val (.long (q1 &&& (((1 : Int64) <<< (ib &&& 0x3f).toInt64) ^^^ (-1 : Int64)))), .second, .val (.int (1 : Int32)), .val (.int (1 : Int32)), .unset] [(.int (0 : Int32))]))
    refine own_st (fun t k => XS.ifYes X8.here hx rfl (pc0 := 150) (pc' := 162) rfl (hb hby at_150) rfl ((if0 _ _).trans (teq (by decide : (0 : Int32) = (0 : Int32))).1) (by decide) (by decide) k) ?_
    show own_Go p e below K (T8.setTop (mkF m 162 #[.val (.long q1), .second, .val (.long q2), .second, .val (.long q3), .second, .val (.int p4), .val (.int p5), .val (.int p6), .val (.int (0 : Int32)), .val (.int ia), .val (.int ((0 : Int32) - ia)), .val (.int ib), .val (.int ic), .val (.ref b1), .val (.long ((1 : Int64) <<< (ib &&& 0x3f).toInt64)), .second, .val (.long q1), .second, .val (.long (q1 &&& (((1 : Int64) <<< (ib &&& 0x3f).toInt64) ^^^ (-1 : Int64)))), .second, .val (.int (1 : Int32)), .val (.int (1 : Int32)), .unset] []))
    refine own_st (fun t k => XS.iload X8.here hx rfl (hb hby at_162) rfl k) ?_
    show own_Go p e below K (T8.setTop (mkF m 164 #[.val (.long q1), .second, .val (.long q2), .second, .val (.long q3), .second, .val (.int p4), .val (.int p5), .val (.int p6), .val (.int (0 : Int32)), .val (.int ia), .val (.int ((0 : Int32) - ia)), .val (.int ib), .val (.int ic), .val (.ref b1), .val (.long ((1 : Int64) <<< (ib &&& 0x3f).toInt64)), .second, .val (.long q1), .second, .val (.long (q1 &&& (((1 : Int64) <<< (ib &&& 0x3f).toInt64) ^^^ (-1 : Int64)))), .second, .val (.int (1 : Int32)), .val (.int (1 : Int32)), .unset] [(.int (0 : Int32))]))
    refine own_st (fun t k => XS.iconst X8.here hx rfl (hb hby at_164) k) ?_
    show own_Go p e below K (T8.setTop (mkF m 165 #[.val (.long q1), .second, .val (.long q2), .second, .val (.long q3), .second, .val (.int p4), .val (.int p5), .val (.int p6), .val (.int (0 : Int32)), .val (.int ia), .val (.int ((0 : Int32) - ia)), .val (.int ib), .val (.int ic), .val (.ref b1), .val (.long ((1 : Int64) <<< (ib &&& 0x3f).toInt64)), .second, .val (.long q1), .second, .val (.long (q1 &&& (((1 : Int64) <<< (ib &&& 0x3f).toInt64) ^^^ (-1 : Int64)))), .second, .val (.int (1 : Int32)), .val (.int (1 : Int32)), .unset] [(.int (1 : Int32)), (.int (0 : Int32))]))
    refine own_st (fun t k => XS.icmpNo X8.here hx rfl (hb hby at_165) rfl (feq (by decide : ¬ ((0 : Int32) = (1 : Int32)))).1 k) ?_
    show own_Go p e below K (T8.setTop (mkF m 168 #[.val (.long q1), .second, .val (.long q2), .second, .val (.long q3), .second, .val (.int p4), .val (.int p5), .val (.int p6), .val (.int (0 : Int32)), .val (.int ia), .val (.int ((0 : Int32) - ia)), .val (.int ib), .val (.int ic), .val (.ref b1), .val (.long ((1 : Int64) <<< (ib &&& 0x3f).toInt64)), .second, .val (.long q1), .second, .val (.long (q1 &&& (((1 : Int64) <<< (ib &&& 0x3f).toInt64) ^^^ (-1 : Int64)))), .second, .val (.int (1 : Int32)), .val (.int (1 : Int32)), .unset] []))
    refine own_st (fun t k => XS.aload X8.here hx rfl (hb hby at_168) rfl rfl k) ?_
    show own_Go p e below K (T8.setTop (mkF m 170 #[.val (.long q1), .second, .val (.long q2), .second, .val (.long q3), .second, .val (.int p4), .val (.int p5), .val (.int p6), .val (.int (0 : Int32)), .val (.int ia), .val (.int ((0 : Int32) - ia)), .val (.int ib), .val (.int ic), .val (.ref b1), .val (.long ((1 : Int64) <<< (ib &&& 0x3f).toInt64)), .second, .val (.long q1), .second, .val (.long (q1 &&& (((1 : Int64) <<< (ib &&& 0x3f).toInt64) ^^^ (-1 : Int64)))), .second, .val (.int (1 : Int32)), .val (.int (1 : Int32)), .unset] [(.ref b1)]))
    refine own_st (fun t k => XS.iconst X8.here hx rfl (hb hby at_170) k) ?_
    show own_Go p e below K (T8.setTop (mkF m 171 #[.val (.long q1), .second, .val (.long q2), .second, .val (.long q3), .second, .val (.int p4), .val (.int p5), .val (.int p6), .val (.int (0 : Int32)), .val (.int ia), .val (.int ((0 : Int32) - ia)), .val (.int ib), .val (.int ic), .val (.ref b1), .val (.long ((1 : Int64) <<< (ib &&& 0x3f).toInt64)), .second, .val (.long q1), .second, .val (.long (q1 &&& (((1 : Int64) <<< (ib &&& 0x3f).toInt64) ^^^ (-1 : Int64)))), .second, .val (.int (1 : Int32)), .val (.int (1 : Int32)), .unset] [(.int (1 : Int32)), (.ref b1)]))
    obtain ⟨cl10, Ar10, qa10, Sa10, Ma10, Ha10, Ga10⟩ := id VV
    have hin10 : ¬ ((1 : Int32) < 0 ∨ cl10.slots.size ≤ ((1 : Int32)).toNatClampNeg) := inb_of Sa10 ⟨by decide, by decide⟩
    refine own_st (X8.laload hx (j := (1 : Int32)) (v := (.long q2)) (own_hat rfl Ar10.1) (State.isArrayOf_alike hZ.alike Ar10.2.1) Ar10.2.2 hin10 (Has.at Ha10 hin10 rfl) (g := (mkF m 171 #[.val (.long q1), .second, .val (.long q2), .second, .val (.long q3), .second, .val (.int p4), .val (.int p5), .val (.int p6), .val (.int (0 : Int32)), .val (.int ia), .val (.int ((0 : Int32) - ia)), .val (.int ib), .val (.int ic), .val (.ref b1), .val (.long ((1 : Int64) <<< (ib &&& 0x3f).toInt64)), .second, .val (.long q1), .second, .val (.long (q1 &&& (((1 : Int64) <<< (ib &&& 0x3f).toInt64) ^^^ (-1 : Int64)))), .second, .val (.int (1 : Int32)), .val (.int (1 : Int32)), .unset] [(.int (1 : Int32)), (.ref b1)])) rfl rfl (hb hby at_171)) ?_
    show own_Go p e below K (T8.setTop (mkF m 172 #[.val (.long q1), .second, .val (.long q2), .second, .val (.long q3), .second, .val (.int p4), .val (.int p5), .val (.int p6), .val (.int (0 : Int32)), .val (.int ia), .val (.int ((0 : Int32) - ia)), .val (.int ib), .val (.int ic), .val (.ref b1), .val (.long ((1 : Int64) <<< (ib &&& 0x3f).toInt64)), .second, .val (.long q1), .second, .val (.long (q1 &&& (((1 : Int64) <<< (ib &&& 0x3f).toInt64) ^^^ (-1 : Int64)))), .second, .val (.int (1 : Int32)), .val (.int (1 : Int32)), .unset] [(.long q2)]))
    refine own_st (fun t k => XS.lloadN X8.here hx rfl (hb hby at_172) rfl k) ?_
    show own_Go p e below K (T8.setTop (mkF m 173 #[.val (.long q1), .second, .val (.long q2), .second, .val (.long q3), .second, .val (.int p4), .val (.int p5), .val (.int p6), .val (.int (0 : Int32)), .val (.int ia), .val (.int ((0 : Int32) - ia)), .val (.int ib), .val (.int ic), .val (.ref b1), .val (.long ((1 : Int64) <<< (ib &&& 0x3f).toInt64)), .second, .val (.long q1), .second, .val (.long (q1 &&& (((1 : Int64) <<< (ib &&& 0x3f).toInt64) ^^^ (-1 : Int64)))), .second, .val (.int (1 : Int32)), .val (.int (1 : Int32)), .unset] [(.long q2), (.long q2)]))
    refine own_st (fun t k => XS.lcmp X8.here hx rfl (hb hby at_173) rfl k) ?_
    show own_Go p e below K (T8.setTop (mkF m 174 #[.val (.long q1), .second, .val (.long q2), .second, .val (.long q3), .second, .val (.int p4), .val (.int p5), .val (.int p6), .val (.int (0 : Int32)), .val (.int ia), .val (.int ((0 : Int32) - ia)), .val (.int ib), .val (.int ic), .val (.ref b1), .val (.long ((1 : Int64) <<< (ib &&& 0x3f).toInt64)), .second, .val (.long q1), .second, .val (.long (q1 &&& (((1 : Int64) <<< (ib &&& 0x3f).toInt64) ^^^ (-1 : Int64)))), .second, .val (.int (1 : Int32)), .val (.int (1 : Int32)), .unset] [(.int (lcmpW q2 q2))]))
    refine own_st (fun t k => XS.ifNo X8.here hx rfl (hb hby at_174) rfl ((if0 _ _).trans (teq ((lw_eq _ _).mpr (rfl : q2 = q2))).2) k) ?_
    show own_Go p e below K (T8.setTop (mkF m 177 #[.val (.long q1), .second, .val (.long q2), .second, .val (.long q3), .second, .val (.int p4), .val (.int p5), .val (.int p6), .val (.int (0 : Int32)), .val (.int ia), .val (.int ((0 : Int32) - ia)), .val (.int ib), .val (.int ic), .val (.ref b1), .val (.long ((1 : Int64) <<< (ib &&& 0x3f).toInt64)), .second, .val (.long q1), .second, .val (.long (q1 &&& (((1 : Int64) <<< (ib &&& 0x3f).toInt64) ^^^ (-1 : Int64)))), .second, .val (.int (1 : Int32)), .val (.int (1 : Int32)), .unset] []))
    refine own_st (fun t k => XS.iload X8.here hx rfl (hb hby at_177) rfl k) ?_
    show own_Go p e below K (T8.setTop (mkF m 179 #[.val (.long q1), .second, .val (.long q2), .second, .val (.long q3), .second, .val (.int p4), .val (.int p5), .val (.int p6), .val (.int (0 : Int32)), .val (.int ia), .val (.int ((0 : Int32) - ia)), .val (.int ib), .val (.int ic), .val (.ref b1), .val (.long ((1 : Int64) <<< (ib &&& 0x3f).toInt64)), .second, .val (.long q1), .second, .val (.long (q1 &&& (((1 : Int64) <<< (ib &&& 0x3f).toInt64) ^^^ (-1 : Int64)))), .second, .val (.int (1 : Int32)), .val (.int (1 : Int32)), .unset] [(.int (0 : Int32))]))
    refine own_st (fun t k => XS.iconst X8.here hx rfl (hb hby at_179) k) ?_
    show own_Go p e below K (T8.setTop (mkF m 180 #[.val (.long q1), .second, .val (.long q2), .second, .val (.long q3), .second, .val (.int p4), .val (.int p5), .val (.int p6), .val (.int (0 : Int32)), .val (.int ia), .val (.int ((0 : Int32) - ia)), .val (.int ib), .val (.int ic), .val (.ref b1), .val (.long ((1 : Int64) <<< (ib &&& 0x3f).toInt64)), .second, .val (.long q1), .second, .val (.long (q1 &&& (((1 : Int64) <<< (ib &&& 0x3f).toInt64) ^^^ (-1 : Int64)))), .second, .val (.int (1 : Int32)), .val (.int (1 : Int32)), .unset] [(.int (2 : Int32)), (.int (0 : Int32))]))
    refine own_st (fun t k => XS.icmpNo X8.here hx rfl (hb hby at_180) rfl (feq (by decide : ¬ ((0 : Int32) = (2 : Int32)))).1 k) ?_
    show own_Go p e below K (T8.setTop (mkF m 183 #[.val (.long q1), .second, .val (.long q2), .second, .val (.long q3), .second, .val (.int p4), .val (.int p5), .val (.int p6), .val (.int (0 : Int32)), .val (.int ia), .val (.int ((0 : Int32) - ia)), .val (.int ib), .val (.int ic), .val (.ref b1), .val (.long ((1 : Int64) <<< (ib &&& 0x3f).toInt64)), .second, .val (.long q1), .second, .val (.long (q1 &&& (((1 : Int64) <<< (ib &&& 0x3f).toInt64) ^^^ (-1 : Int64)))), .second, .val (.int (1 : Int32)), .val (.int (1 : Int32)), .unset] []))
    refine own_st (fun t k => XS.aload X8.here hx rfl (hb hby at_183) rfl rfl k) ?_
    show own_Go p e below K (T8.setTop (mkF m 185 #[.val (.long q1), .second, .val (.long q2), .second, .val (.long q3), .second, .val (.int p4), .val (.int p5), .val (.int p6), .val (.int (0 : Int32)), .val (.int ia), .val (.int ((0 : Int32) - ia)), .val (.int ib), .val (.int ic), .val (.ref b1), .val (.long ((1 : Int64) <<< (ib &&& 0x3f).toInt64)), .second, .val (.long q1), .second, .val (.long (q1 &&& (((1 : Int64) <<< (ib &&& 0x3f).toInt64) ^^^ (-1 : Int64)))), .second, .val (.int (1 : Int32)), .val (.int (1 : Int32)), .unset] [(.ref b1)]))
    refine own_st (fun t k => XS.iconst X8.here hx rfl (hb hby at_185) k) ?_
    show own_Go p e below K (T8.setTop (mkF m 186 #[.val (.long q1), .second, .val (.long q2), .second, .val (.long q3), .second, .val (.int p4), .val (.int p5), .val (.int p6), .val (.int (0 : Int32)), .val (.int ia), .val (.int ((0 : Int32) - ia)), .val (.int ib), .val (.int ic), .val (.ref b1), .val (.long ((1 : Int64) <<< (ib &&& 0x3f).toInt64)), .second, .val (.long q1), .second, .val (.long (q1 &&& (((1 : Int64) <<< (ib &&& 0x3f).toInt64) ^^^ (-1 : Int64)))), .second, .val (.int (1 : Int32)), .val (.int (1 : Int32)), .unset] [(.int (2 : Int32)), (.ref b1)]))
    obtain ⟨cl11, Ar11, qa11, Sa11, Ma11, Ha11, Ga11⟩ := id VV
    have hin11 : ¬ ((2 : Int32) < 0 ∨ cl11.slots.size ≤ ((2 : Int32)).toNatClampNeg) := inb_of Sa11 ⟨by decide, by decide⟩
    refine own_st (X8.laload hx (j := (2 : Int32)) (v := (.long q3)) (own_hat rfl Ar11.1) (State.isArrayOf_alike hZ.alike Ar11.2.1) Ar11.2.2 hin11 (Has.at Ha11 hin11 rfl) (g := (mkF m 186 #[.val (.long q1), .second, .val (.long q2), .second, .val (.long q3), .second, .val (.int p4), .val (.int p5), .val (.int p6), .val (.int (0 : Int32)), .val (.int ia), .val (.int ((0 : Int32) - ia)), .val (.int ib), .val (.int ic), .val (.ref b1), .val (.long ((1 : Int64) <<< (ib &&& 0x3f).toInt64)), .second, .val (.long q1), .second, .val (.long (q1 &&& (((1 : Int64) <<< (ib &&& 0x3f).toInt64) ^^^ (-1 : Int64)))), .second, .val (.int (1 : Int32)), .val (.int (1 : Int32)), .unset] [(.int (2 : Int32)), (.ref b1)])) rfl rfl (hb hby at_186)) ?_
    show own_Go p e below K (T8.setTop (mkF m 187 #[.val (.long q1), .second, .val (.long q2), .second, .val (.long q3), .second, .val (.int p4), .val (.int p5), .val (.int p6), .val (.int (0 : Int32)), .val (.int ia), .val (.int ((0 : Int32) - ia)), .val (.int ib), .val (.int ic), .val (.ref b1), .val (.long ((1 : Int64) <<< (ib &&& 0x3f).toInt64)), .second, .val (.long q1), .second, .val (.long (q1 &&& (((1 : Int64) <<< (ib &&& 0x3f).toInt64) ^^^ (-1 : Int64)))), .second, .val (.int (1 : Int32)), .val (.int (1 : Int32)), .unset] [(.long q3)]))
    refine own_st (fun t k => XS.lload X8.here hx rfl (hb hby at_187) rfl k) ?_
    show own_Go p e below K (T8.setTop (mkF m 189 #[.val (.long q1), .second, .val (.long q2), .second, .val (.long q3), .second, .val (.int p4), .val (.int p5), .val (.int p6), .val (.int (0 : Int32)), .val (.int ia), .val (.int ((0 : Int32) - ia)), .val (.int ib), .val (.int ic), .val (.ref b1), .val (.long ((1 : Int64) <<< (ib &&& 0x3f).toInt64)), .second, .val (.long q1), .second, .val (.long (q1 &&& (((1 : Int64) <<< (ib &&& 0x3f).toInt64) ^^^ (-1 : Int64)))), .second, .val (.int (1 : Int32)), .val (.int (1 : Int32)), .unset] [(.long q3), (.long q3)]))
    refine own_st (fun t k => XS.lcmp X8.here hx rfl (hb hby at_189) rfl k) ?_
    show own_Go p e below K (T8.setTop (mkF m 190 #[.val (.long q1), .second, .val (.long q2), .second, .val (.long q3), .second, .val (.int p4), .val (.int p5), .val (.int p6), .val (.int (0 : Int32)), .val (.int ia), .val (.int ((0 : Int32) - ia)), .val (.int ib), .val (.int ic), .val (.ref b1), .val (.long ((1 : Int64) <<< (ib &&& 0x3f).toInt64)), .second, .val (.long q1), .second, .val (.long (q1 &&& (((1 : Int64) <<< (ib &&& 0x3f).toInt64) ^^^ (-1 : Int64)))), .second, .val (.int (1 : Int32)), .val (.int (1 : Int32)), .unset] [(.int (lcmpW q3 q3))]))
    refine own_st (fun t k => XS.ifNo X8.here hx rfl (hb hby at_190) rfl ((if0 _ _).trans (teq ((lw_eq _ _).mpr (rfl : q3 = q3))).2) k) ?_
    show own_Go p e below K (T8.setTop (mkF m 193 #[.val (.long q1), .second, .val (.long q2), .second, .val (.long q3), .second, .val (.int p4), .val (.int p5), .val (.int p6), .val (.int (0 : Int32)), .val (.int ia), .val (.int ((0 : Int32) - ia)), .val (.int ib), .val (.int ic), .val (.ref b1), .val (.long ((1 : Int64) <<< (ib &&& 0x3f).toInt64)), .second, .val (.long q1), .second, .val (.long (q1 &&& (((1 : Int64) <<< (ib &&& 0x3f).toInt64) ^^^ (-1 : Int64)))), .second, .val (.int (1 : Int32)), .val (.int (1 : Int32)), .unset] []))
    refine own_st (fun t k => XS.iconst X8.here hx rfl (hb hby at_193) k) ?_
    show own_Go p e below K (T8.setTop (mkF m 194 #[.val (.long q1), .second, .val (.long q2), .second, .val (.long q3), .second, .val (.int p4), .val (.int p5), .val (.int p6), .val (.int (0 : Int32)), .val (.int ia), .val (.int ((0 : Int32) - ia)), .val (.int ib), .val (.int ic), .val (.ref b1), .val (.long ((1 : Int64) <<< (ib &&& 0x3f).toInt64)), .second, .val (.long q1), .second, .val (.long (q1 &&& (((1 : Int64) <<< (ib &&& 0x3f).toInt64) ^^^ (-1 : Int64)))), .second, .val (.int (1 : Int32)), .val (.int (1 : Int32)), .unset] [(.int (1 : Int32))]))
    refine own_st (fun t k => XS.goto X8.here hx rfl (pc0 := 194) (pc' := 198) rfl (hb hby at_194) (by decide) (by decide) k) ?_
    show own_Go p e below K (T8.setTop (mkF m 198 #[.val (.long q1), .second, .val (.long q2), .second, .val (.long q3), .second, .val (.int p4), .val (.int p5), .val (.int p6), .val (.int (0 : Int32)), .val (.int ia), .val (.int ((0 : Int32) - ia)), .val (.int ib), .val (.int ic), .val (.ref b1), .val (.long ((1 : Int64) <<< (ib &&& 0x3f).toInt64)), .second, .val (.long q1), .second, .val (.long (q1 &&& (((1 : Int64) <<< (ib &&& 0x3f).toInt64) ^^^ (-1 : Int64)))), .second, .val (.int (1 : Int32)), .val (.int (1 : Int32)), .unset] [(.int (1 : Int32))]))
    refine own_st (fun t k => XS.istore X8.here hx rfl (hb hby at_198) rfl (l' := #[.val (.long q1), .second, .val (.long q2), .second, .val (.long q3), .second, .val (.int p4), .val (.int p5), .val (.int p6), .val (.int (0 : Int32)), .val (.int ia), .val (.int ((0 : Int32) - ia)), .val (.int ib), .val (.int ic), .val (.ref b1), .val (.long ((1 : Int64) <<< (ib &&& 0x3f).toInt64)), .second, .val (.long q1), .second, .val (.long (q1 &&& (((1 : Int64) <<< (ib &&& 0x3f).toInt64) ^^^ (-1 : Int64)))), .second, .val (.int (1 : Int32)), .val (.int (1 : Int32)), .val (.int (1 : Int32))]) rfl k) ?_
    show own_Go p e below K (T8.setTop (mkF m 200 #[.val (.long q1), .second, .val (.long q2), .second, .val (.long q3), .second, .val (.int p4), .val (.int p5), .val (.int p6), .val (.int (0 : Int32)), .val (.int ia), .val (.int ((0 : Int32) - ia)), .val (.int ib), .val (.int ic), .val (.ref b1), .val (.long ((1 : Int64) <<< (ib &&& 0x3f).toInt64)), .second, .val (.long q1), .second, .val (.long (q1 &&& (((1 : Int64) <<< (ib &&& 0x3f).toInt64) ^^^ (-1 : Int64)))), .second, .val (.int (1 : Int32)), .val (.int (1 : Int32)), .val (.int (1 : Int32))] []))
    refine own_st (fun t k => XS.iload X8.here hx rfl (hb hby at_200) rfl k) ?_
    show own_Go p e below K (T8.setTop (mkF m 202 #[.val (.long q1), .second, .val (.long q2), .second, .val (.long q3), .second, .val (.int p4), .val (.int p5), .val (.int p6), .val (.int (0 : Int32)), .val (.int ia), .val (.int ((0 : Int32) - ia)), .val (.int ib), .val (.int ic), .val (.ref b1), .val (.long ((1 : Int64) <<< (ib &&& 0x3f).toInt64)), .second, .val (.long q1), .second, .val (.long (q1 &&& (((1 : Int64) <<< (ib &&& 0x3f).toInt64) ^^^ (-1 : Int64)))), .second, .val (.int (1 : Int32)), .val (.int (1 : Int32)), .val (.int (1 : Int32))] [(.int (1 : Int32))]))
    refine own_st (fun t k => XS.ifNo X8.here hx rfl (hb hby at_202) rfl ((if0 _ _).trans (feq (by decide : ¬ ((1 : Int32) = (0 : Int32)))).1) k) ?_
    show own_Go p e below K (T8.setTop (mkF m 205 #[.val (.long q1), .second, .val (.long q2), .second, .val (.long q3), .second, .val (.int p4), .val (.int p5), .val (.int p6), .val (.int (0 : Int32)), .val (.int ia), .val (.int ((0 : Int32) - ia)), .val (.int ib), .val (.int ic), .val (.ref b1), .val (.long ((1 : Int64) <<< (ib &&& 0x3f).toInt64)), .second, .val (.long q1), .second, .val (.long (q1 &&& (((1 : Int64) <<< (ib &&& 0x3f).toInt64) ^^^ (-1 : Int64)))), .second, .val (.int (1 : Int32)), .val (.int (1 : Int32)), .val (.int (1 : Int32))] []))
    refine own_st (fun t k => XS.iload X8.here hx rfl (hb hby at_205) rfl k) ?_
    show own_Go p e below K (T8.setTop (mkF m 207 #[.val (.long q1), .second, .val (.long q2), .second, .val (.long q3), .second, .val (.int p4), .val (.int p5), .val (.int p6), .val (.int (0 : Int32)), .val (.int ia), .val (.int ((0 : Int32) - ia)), .val (.int ib), .val (.int ic), .val (.ref b1), .val (.long ((1 : Int64) <<< (ib &&& 0x3f).toInt64)), .second, .val (.long q1), .second, .val (.long (q1 &&& (((1 : Int64) <<< (ib &&& 0x3f).toInt64) ^^^ (-1 : Int64)))), .second, .val (.int (1 : Int32)), .val (.int (1 : Int32)), .val (.int (1 : Int32))] [(.int (1 : Int32))]))
    refine own_st (fun t k => XS.ifNo X8.here hx rfl (hb hby at_207) rfl ((if0 _ _).trans (feq (by decide : ¬ ((1 : Int32) = (0 : Int32)))).1) k) ?_
    show own_Go p e below K (T8.setTop (mkF m 210 #[.val (.long q1), .second, .val (.long q2), .second, .val (.long q3), .second, .val (.int p4), .val (.int p5), .val (.int p6), .val (.int (0 : Int32)), .val (.int ia), .val (.int ((0 : Int32) - ia)), .val (.int ib), .val (.int ic), .val (.ref b1), .val (.long ((1 : Int64) <<< (ib &&& 0x3f).toInt64)), .second, .val (.long q1), .second, .val (.long (q1 &&& (((1 : Int64) <<< (ib &&& 0x3f).toInt64) ^^^ (-1 : Int64)))), .second, .val (.int (1 : Int32)), .val (.int (1 : Int32)), .val (.int (1 : Int32))] []))
    refine own_st (fun t k => XS.iload X8.here hx rfl (hb hby at_210) rfl k) ?_
    show own_Go p e below K (T8.setTop (mkF m 212 #[.val (.long q1), .second, .val (.long q2), .second, .val (.long q3), .second, .val (.int p4), .val (.int p5), .val (.int p6), .val (.int (0 : Int32)), .val (.int ia), .val (.int ((0 : Int32) - ia)), .val (.int ib), .val (.int ic), .val (.ref b1), .val (.long ((1 : Int64) <<< (ib &&& 0x3f).toInt64)), .second, .val (.long q1), .second, .val (.long (q1 &&& (((1 : Int64) <<< (ib &&& 0x3f).toInt64) ^^^ (-1 : Int64)))), .second, .val (.int (1 : Int32)), .val (.int (1 : Int32)), .val (.int (1 : Int32))] [(.int (1 : Int32))]))
    refine own_st (fun t k => XS.ifNo X8.here hx rfl (hb hby at_212) rfl ((if0 _ _).trans (feq (by decide : ¬ ((1 : Int32) = (0 : Int32)))).1) k) ?_
    show own_Go p e below K (T8.setTop (mkF m 215 #[.val (.long q1), .second, .val (.long q2), .second, .val (.long q3), .second, .val (.int p4), .val (.int p5), .val (.int p6), .val (.int (0 : Int32)), .val (.int ia), .val (.int ((0 : Int32) - ia)), .val (.int ib), .val (.int ic), .val (.ref b1), .val (.long ((1 : Int64) <<< (ib &&& 0x3f).toInt64)), .second, .val (.long q1), .second, .val (.long (q1 &&& (((1 : Int64) <<< (ib &&& 0x3f).toInt64) ^^^ (-1 : Int64)))), .second, .val (.int (1 : Int32)), .val (.int (1 : Int32)), .val (.int (1 : Int32))] []))
    refine own_st (fun t k => XS.iconst X8.here hx rfl (hb hby at_215) k) ?_
    show own_Go p e below K (T8.setTop (mkF m 216 #[.val (.long q1), .second, .val (.long q2), .second, .val (.long q3), .second, .val (.int p4), .val (.int p5), .val (.int p6), .val (.int (0 : Int32)), .val (.int ia), .val (.int ((0 : Int32) - ia)), .val (.int ib), .val (.int ic), .val (.ref b1), .val (.long ((1 : Int64) <<< (ib &&& 0x3f).toInt64)), .second, .val (.long q1), .second, .val (.long (q1 &&& (((1 : Int64) <<< (ib &&& 0x3f).toInt64) ^^^ (-1 : Int64)))), .second, .val (.int (1 : Int32)), .val (.int (1 : Int32)), .val (.int (1 : Int32))] [(.int (1 : Int32))]))
    refine own_st (fun t k => XS.goto X8.here hx rfl (pc0 := 216) (pc' := 220) rfl (hb hby at_216) (by decide) (by decide) k) ?_
    show own_Go p e below K (T8.setTop (mkF m 220 #[.val (.long q1), .second, .val (.long q2), .second, .val (.long q3), .second, .val (.int p4), .val (.int p5), .val (.int p6), .val (.int (0 : Int32)), .val (.int ia), .val (.int ((0 : Int32) - ia)), .val (.int ib), .val (.int ic), .val (.ref b1), .val (.long ((1 : Int64) <<< (ib &&& 0x3f).toInt64)), .second, .val (.long q1), .second, .val (.long (q1 &&& (((1 : Int64) <<< (ib &&& 0x3f).toInt64) ^^^ (-1 : Int64)))), .second, .val (.int (1 : Int32)), .val (.int (1 : Int32)), .val (.int (1 : Int32))] [(.int (1 : Int32))]))
    obtain ⟨fs, hr, hrun, hended, hW, hsame⟩ := X8.leave (v := some (.int (nar .boolean (1 : Int32)))) (fun h => by rw [Bd.returns] at h; cases h)
    refine ⟨_, retN X8 hx (t := .boolean) Bd.returns (by simp) (hb hby at_220) hr, fin _ _ _ hrun hended ?_ ⟨⟨_, rfl⟩, hW, hsame.mono (by decide) (by decide)⟩⟩
    show Q0 Z q1 q2 q3 p4 p5 p6 h0 n0 _ T8.heap _
    exact ⟨rfl, N8⟩
  · subst hs
    show own_Go p e below K (T8.setTop (mkF m 72 #[.val (.long q1), .second, .val (.long q2), .second, .val (.long q3), .second, .val (.int p4), .val (.int p5), .val (.int p6), .val (.int (1 : Int32)), .val (.int ia), .val (.int ((1 : Int32) - ia)), .val (.int ib), .val (.int ic), .val (.ref b1), .unset, .unset, .unset, .unset, .unset, .unset, .unset, .unset, .unset] []))
    have VV : Arv Z T8.heap b1 k1 .long (3 : Int32) [(.long q1), (.long (q2 &&& (((1 : Int64) <<< (ib &&& 0x3f).toInt64) ^^^ (-1 : Int64)))), (.long q3)] (.long (0 : Int64)) := by
      have q := p8_0
      rw [Ix, Ib] at q
      exact q
    refine own_st (fun t k => XS.lconst X8.here hx rfl (hb hby at_72) k) ?_
    show own_Go p e below K (T8.setTop (mkF m 73 #[.val (.long q1), .second, .val (.long q2), .second, .val (.long q3), .second, .val (.int p4), .val (.int p5), .val (.int p6), .val (.int (1 : Int32)), .val (.int ia), .val (.int ((1 : Int32) - ia)), .val (.int ib), .val (.int ic), .val (.ref b1), .unset, .unset, .unset, .unset, .unset, .unset, .unset, .unset, .unset] [(.long (1 : Int64))]))
    refine own_st (fun t k => XS.iload X8.here hx rfl (hb hby at_73) rfl k) ?_
    show own_Go p e below K (T8.setTop (mkF m 75 #[.val (.long q1), .second, .val (.long q2), .second, .val (.long q3), .second, .val (.int p4), .val (.int p5), .val (.int p6), .val (.int (1 : Int32)), .val (.int ia), .val (.int ((1 : Int32) - ia)), .val (.int ib), .val (.int ic), .val (.ref b1), .unset, .unset, .unset, .unset, .unset, .unset, .unset, .unset, .unset] [(.int ib), (.long (1 : Int64))]))
    refine own_st (fun t k => XS.lshl X8.here hx rfl (hb hby at_75) rfl k) ?_
    show own_Go p e below K (T8.setTop (mkF m 76 #[.val (.long q1), .second, .val (.long q2), .second, .val (.long q3), .second, .val (.int p4), .val (.int p5), .val (.int p6), .val (.int (1 : Int32)), .val (.int ia), .val (.int ((1 : Int32) - ia)), .val (.int ib), .val (.int ic), .val (.ref b1), .unset, .unset, .unset, .unset, .unset, .unset, .unset, .unset, .unset] [(.long ((1 : Int64) <<< (ib &&& 0x3f).toInt64))]))
    refine own_st (fun t k => XS.lstore X8.here hx rfl (hb hby at_76) rfl (l' := #[.val (.long q1), .second, .val (.long q2), .second, .val (.long q3), .second, .val (.int p4), .val (.int p5), .val (.int p6), .val (.int (1 : Int32)), .val (.int ia), .val (.int ((1 : Int32) - ia)), .val (.int ib), .val (.int ic), .val (.ref b1), .val (.long ((1 : Int64) <<< (ib &&& 0x3f).toInt64)), .second, .unset, .unset, .unset, .unset, .unset, .unset, .unset]) rfl k) ?_
    show own_Go p e below K (T8.setTop (mkF m 78 #[.val (.long q1), .second, .val (.long q2), .second, .val (.long q3), .second, .val (.int p4), .val (.int p5), .val (.int p6), .val (.int (1 : Int32)), .val (.int ia), .val (.int ((1 : Int32) - ia)), .val (.int ib), .val (.int ic), .val (.ref b1), .val (.long ((1 : Int64) <<< (ib &&& 0x3f).toInt64)), .second, .unset, .unset, .unset, .unset, .unset, .unset, .unset] []))
    refine own_st (fun t k => XS.iload X8.here hx rfl (hb hby at_78) rfl k) ?_
    show own_Go p e below K (T8.setTop (mkF m 80 #[.val (.long q1), .second, .val (.long q2), .second, .val (.long q3), .second, .val (.int p4), .val (.int p5), .val (.int p6), .val (.int (1 : Int32)), .val (.int ia), .val (.int ((1 : Int32) - ia)), .val (.int ib), .val (.int ic), .val (.ref b1), .val (.long ((1 : Int64) <<< (ib &&& 0x3f).toInt64)), .second, .unset, .unset, .unset, .unset, .unset, .unset, .unset] [(.int (1 : Int32))]))
    refine own_st (fun t k => XS.ifYes X8.here hx rfl (pc0 := 80) (pc' := 87) rfl (hb hby at_80) rfl ((if0 _ _).trans (feq (by decide : ¬ ((1 : Int32) = (0 : Int32)))).2) (by decide) (by decide) k) ?_
    show own_Go p e below K (T8.setTop (mkF m 87 #[.val (.long q1), .second, .val (.long q2), .second, .val (.long q3), .second, .val (.int p4), .val (.int p5), .val (.int p6), .val (.int (1 : Int32)), .val (.int ia), .val (.int ((1 : Int32) - ia)), .val (.int ib), .val (.int ic), .val (.ref b1), .val (.long ((1 : Int64) <<< (ib &&& 0x3f).toInt64)), .second, .unset, .unset, .unset, .unset, .unset, .unset, .unset] []))
    refine own_st (fun t k => XS.iload X8.here hx rfl (hb hby at_87) rfl k) ?_
    show own_Go p e below K (T8.setTop (mkF m 89 #[.val (.long q1), .second, .val (.long q2), .second, .val (.long q3), .second, .val (.int p4), .val (.int p5), .val (.int p6), .val (.int (1 : Int32)), .val (.int ia), .val (.int ((1 : Int32) - ia)), .val (.int ib), .val (.int ic), .val (.ref b1), .val (.long ((1 : Int64) <<< (ib &&& 0x3f).toInt64)), .second, .unset, .unset, .unset, .unset, .unset, .unset, .unset] [(.int (1 : Int32))]))
    refine own_st (fun t k => XS.iconst X8.here hx rfl (hb hby at_89) k) ?_
    show own_Go p e below K (T8.setTop (mkF m 90 #[.val (.long q1), .second, .val (.long q2), .second, .val (.long q3), .second, .val (.int p4), .val (.int p5), .val (.int p6), .val (.int (1 : Int32)), .val (.int ia), .val (.int ((1 : Int32) - ia)), .val (.int ib), .val (.int ic), .val (.ref b1), .val (.long ((1 : Int64) <<< (ib &&& 0x3f).toInt64)), .second, .unset, .unset, .unset, .unset, .unset, .unset, .unset] [(.int (1 : Int32)), (.int (1 : Int32))]))
    refine own_st (fun t k => XS.icmpNo X8.here hx rfl (hb hby at_90) rfl (teq (by decide : (1 : Int32) = (1 : Int32))).2 k) ?_
    show own_Go p e below K (T8.setTop (mkF m 93 #[.val (.long q1), .second, .val (.long q2), .second, .val (.long q3), .second, .val (.int p4), .val (.int p5), .val (.int p6), .val (.int (1 : Int32)), .val (.int ia), .val (.int ((1 : Int32) - ia)), .val (.int ib), .val (.int ic), .val (.ref b1), .val (.long ((1 : Int64) <<< (ib &&& 0x3f).toInt64)), .second, .unset, .unset, .unset, .unset, .unset, .unset, .unset] []))
    refine own_st (fun t k => XS.lloadN X8.here hx rfl (hb hby at_93) rfl k) ?_
    show own_Go p e below K (T8.setTop (mkF m 94 #[.val (.long q1), .second, .val (.long q2), .second, .val (.long q3), .second, .val (.int p4), .val (.int p5), .val (.int p6), .val (.int (1 : Int32)), .val (.int ia), .val (.int ((1 : Int32) - ia)), .val (.int ib), .val (.int ic), .val (.ref b1), .val (.long ((1 : Int64) <<< (ib &&& 0x3f).toInt64)), .second, .unset, .unset, .unset, .unset, .unset, .unset, .unset] [(.long q2)]))
    refine own_st (fun t k => XS.goto X8.here hx rfl (pc0 := 94) (pc' := 99) rfl (hb hby at_94) (by decide) (by decide) k) ?_
    show own_Go p e below K (T8.setTop (mkF m 99 #[.val (.long q1), .second, .val (.long q2), .second, .val (.long q3), .second, .val (.int p4), .val (.int p5), .val (.int p6), .val (.int (1 : Int32)), .val (.int ia), .val (.int ((1 : Int32) - ia)), .val (.int ib), .val (.int ic), .val (.ref b1), .val (.long ((1 : Int64) <<< (ib &&& 0x3f).toInt64)), .second, .unset, .unset, .unset, .unset, .unset, .unset, .unset] [(.long q2)]))
    refine own_st (fun t k => XS.lstore X8.here hx rfl (hb hby at_99) rfl (l' := #[.val (.long q1), .second, .val (.long q2), .second, .val (.long q3), .second, .val (.int p4), .val (.int p5), .val (.int p6), .val (.int (1 : Int32)), .val (.int ia), .val (.int ((1 : Int32) - ia)), .val (.int ib), .val (.int ic), .val (.ref b1), .val (.long ((1 : Int64) <<< (ib &&& 0x3f).toInt64)), .second, .val (.long q2), .second, .unset, .unset, .unset, .unset, .unset]) rfl k) ?_
    show own_Go p e below K (T8.setTop (mkF m 101 #[.val (.long q1), .second, .val (.long q2), .second, .val (.long q3), .second, .val (.int p4), .val (.int p5), .val (.int p6), .val (.int (1 : Int32)), .val (.int ia), .val (.int ((1 : Int32) - ia)), .val (.int ib), .val (.int ic), .val (.ref b1), .val (.long ((1 : Int64) <<< (ib &&& 0x3f).toInt64)), .second, .val (.long q2), .second, .unset, .unset, .unset, .unset, .unset] []))
    refine own_st (fun t k => XS.aload X8.here hx rfl (hb hby at_101) rfl rfl k) ?_
    show own_Go p e below K (T8.setTop (mkF m 103 #[.val (.long q1), .second, .val (.long q2), .second, .val (.long q3), .second, .val (.int p4), .val (.int p5), .val (.int p6), .val (.int (1 : Int32)), .val (.int ia), .val (.int ((1 : Int32) - ia)), .val (.int ib), .val (.int ic), .val (.ref b1), .val (.long ((1 : Int64) <<< (ib &&& 0x3f).toInt64)), .second, .val (.long q2), .second, .unset, .unset, .unset, .unset, .unset] [(.ref b1)]))
    refine own_st (fun t k => XS.iload X8.here hx rfl (hb hby at_103) rfl k) ?_
    show own_Go p e below K (T8.setTop (mkF m 105 #[.val (.long q1), .second, .val (.long q2), .second, .val (.long q3), .second, .val (.int p4), .val (.int p5), .val (.int p6), .val (.int (1 : Int32)), .val (.int ia), .val (.int ((1 : Int32) - ia)), .val (.int ib), .val (.int ic), .val (.ref b1), .val (.long ((1 : Int64) <<< (ib &&& 0x3f).toInt64)), .second, .val (.long q2), .second, .unset, .unset, .unset, .unset, .unset] [(.int (1 : Int32)), (.ref b1)]))
    obtain ⟨cl12, Ar12, qa12, Sa12, Ma12, Ha12, Ga12⟩ := id VV
    have hin12 : ¬ ((1 : Int32) < 0 ∨ cl12.slots.size ≤ ((1 : Int32)).toNatClampNeg) := inb_of Sa12 ⟨by decide, by decide⟩
    refine own_st (X8.laload hx (j := (1 : Int32)) (v := (.long (q2 &&& (((1 : Int64) <<< (ib &&& 0x3f).toInt64) ^^^ (-1 : Int64))))) (own_hat rfl Ar12.1) (State.isArrayOf_alike hZ.alike Ar12.2.1) Ar12.2.2 hin12 (Has.at Ha12 hin12 rfl) (g := (mkF m 105 #[.val (.long q1), .second, .val (.long q2), .second, .val (.long q3), .second, .val (.int p4), .val (.int p5), .val (.int p6), .val (.int (1 : Int32)), .val (.int ia), .val (.int ((1 : Int32) - ia)), .val (.int ib), .val (.int ic), .val (.ref b1), .val (.long ((1 : Int64) <<< (ib &&& 0x3f).toInt64)), .second, .val (.long q2), .second, .unset, .unset, .unset, .unset, .unset] [(.int (1 : Int32)), (.ref b1)])) rfl rfl (hb hby at_105)) ?_
    show own_Go p e below K (T8.setTop (mkF m 106 #[.val (.long q1), .second, .val (.long q2), .second, .val (.long q3), .second, .val (.int p4), .val (.int p5), .val (.int p6), .val (.int (1 : Int32)), .val (.int ia), .val (.int ((1 : Int32) - ia)), .val (.int ib), .val (.int ic), .val (.ref b1), .val (.long ((1 : Int64) <<< (ib &&& 0x3f).toInt64)), .second, .val (.long q2), .second, .unset, .unset, .unset, .unset, .unset] [(.long (q2 &&& (((1 : Int64) <<< (ib &&& 0x3f).toInt64) ^^^ (-1 : Int64))))]))
    refine own_st (fun t k => XS.lstore X8.here hx rfl (hb hby at_106) rfl (l' := #[.val (.long q1), .second, .val (.long q2), .second, .val (.long q3), .second, .val (.int p4), .val (.int p5), .val (.int p6), .val (.int (1 : Int32)), .val (.int ia), .val (.int ((1 : Int32) - ia)), .val (.int ib), .val (.int ic), .val (.ref b1), .val (.long ((1 : Int64) <<< (ib &&& 0x3f).toInt64)), .second, .val (.long q2), .second, .val (.long (q2 &&& (((1 : Int64) <<< (ib &&& 0x3f).toInt64) ^^^ (-1 : Int64)))), .second, .unset, .unset, .unset]) rfl k) ?_
    show own_Go p e below K (T8.setTop (mkF m 108 #[.val (.long q1), .second, .val (.long q2), .second, .val (.long q3), .second, .val (.int p4), .val (.int p5), .val (.int p6), .val (.int (1 : Int32)), .val (.int ia), .val (.int ((1 : Int32) - ia)), .val (.int ib), .val (.int ic), .val (.ref b1), .val (.long ((1 : Int64) <<< (ib &&& 0x3f).toInt64)), .second, .val (.long q2), .second, .val (.long (q2 &&& (((1 : Int64) <<< (ib &&& 0x3f).toInt64) ^^^ (-1 : Int64)))), .second, .unset, .unset, .unset] []))
    refine own_st (fun t k => XS.lload X8.here hx rfl (hb hby at_108) rfl k) ?_
    show own_Go p e below K (T8.setTop (mkF m 110 #[.val (.long q1), .second, .val (.long q2), .second, .val (.long q3), .second, .val (.int p4), .val (.int p5), .val (.int p6), .val (.int (1 : Int32)), .val (.int ia), .val (.int ((1 : Int32) - ia)), .val (.int ib), .val (.int ic), .val (.ref b1), .val (.long ((1 : Int64) <<< (ib &&& 0x3f).toInt64)), .second, .val (.long q2), .second, .val (.long (q2 &&& (((1 : Int64) <<< (ib &&& 0x3f).toInt64) ^^^ (-1 : Int64)))), .second, .unset, .unset, .unset] [(.long (q2 &&& (((1 : Int64) <<< (ib &&& 0x3f).toInt64) ^^^ (-1 : Int64))))]))
    refine own_st (fun t k => XS.iload X8.here hx rfl (hb hby at_110) rfl k) ?_
    show own_Go p e below K (T8.setTop (mkF m 112 #[.val (.long q1), .second, .val (.long q2), .second, .val (.long q3), .second, .val (.int p4), .val (.int p5), .val (.int p6), .val (.int (1 : Int32)), .val (.int ia), .val (.int ((1 : Int32) - ia)), .val (.int ib), .val (.int ic), .val (.ref b1), .val (.long ((1 : Int64) <<< (ib &&& 0x3f).toInt64)), .second, .val (.long q2), .second, .val (.long (q2 &&& (((1 : Int64) <<< (ib &&& 0x3f).toInt64) ^^^ (-1 : Int64)))), .second, .unset, .unset, .unset] [(.int ib), (.long (q2 &&& (((1 : Int64) <<< (ib &&& 0x3f).toInt64) ^^^ (-1 : Int64))))]))
    refine own_st (fun t k => XS.lushr X8.here hx rfl (hb hby at_112) rfl k) ?_
    show own_Go p e below K (T8.setTop (mkF m 113 #[.val (.long q1), .second, .val (.long q2), .second, .val (.long q3), .second, .val (.int p4), .val (.int p5), .val (.int p6), .val (.int (1 : Int32)), .val (.int ia), .val (.int ((1 : Int32) - ia)), .val (.int ib), .val (.int ic), .val (.ref b1), .val (.long ((1 : Int64) <<< (ib &&& 0x3f).toInt64)), .second, .val (.long q2), .second, .val (.long (q2 &&& (((1 : Int64) <<< (ib &&& 0x3f).toInt64) ^^^ (-1 : Int64)))), .second, .unset, .unset, .unset] [(.long (((q2 &&& (((1 : Int64) <<< (ib &&& 0x3f).toInt64) ^^^ (-1 : Int64))).toUInt64 >>> (ib &&& 0x3f).toInt64.toUInt64).toInt64))]))
    refine own_st (fun t k => XS.lconst X8.here hx rfl (hb hby at_113) k) ?_
    show own_Go p e below K (T8.setTop (mkF m 114 #[.val (.long q1), .second, .val (.long q2), .second, .val (.long q3), .second, .val (.int p4), .val (.int p5), .val (.int p6), .val (.int (1 : Int32)), .val (.int ia), .val (.int ((1 : Int32) - ia)), .val (.int ib), .val (.int ic), .val (.ref b1), .val (.long ((1 : Int64) <<< (ib &&& 0x3f).toInt64)), .second, .val (.long q2), .second, .val (.long (q2 &&& (((1 : Int64) <<< (ib &&& 0x3f).toInt64) ^^^ (-1 : Int64)))), .second, .unset, .unset, .unset] [(.long (1 : Int64)), (.long (((q2 &&& (((1 : Int64) <<< (ib &&& 0x3f).toInt64) ^^^ (-1 : Int64))).toUInt64 >>> (ib &&& 0x3f).toInt64.toUInt64).toInt64))]))
    refine own_st (fun t k => XS.land X8.here hx rfl (hb hby at_114) rfl k) ?_
    show own_Go p e below K (T8.setTop (mkF m 115 #[.val (.long q1), .second, .val (.long q2), .second, .val (.long q3), .second, .val (.int p4), .val (.int p5), .val (.int p6), .val (.int (1 : Int32)), .val (.int ia), .val (.int ((1 : Int32) - ia)), .val (.int ib), .val (.int ic), .val (.ref b1), .val (.long ((1 : Int64) <<< (ib &&& 0x3f).toInt64)), .second, .val (.long q2), .second, .val (.long (q2 &&& (((1 : Int64) <<< (ib &&& 0x3f).toInt64) ^^^ (-1 : Int64)))), .second, .unset, .unset, .unset] [(.long ((((q2 &&& (((1 : Int64) <<< (ib &&& 0x3f).toInt64) ^^^ (-1 : Int64))).toUInt64 >>> (ib &&& 0x3f).toInt64.toUInt64).toInt64) &&& (1 : Int64)))]))
    refine own_st (fun t k => XS.lconst X8.here hx rfl (hb hby at_115) k) ?_
    show own_Go p e below K (T8.setTop (mkF m 116 #[.val (.long q1), .second, .val (.long q2), .second, .val (.long q3), .second, .val (.int p4), .val (.int p5), .val (.int p6), .val (.int (1 : Int32)), .val (.int ia), .val (.int ((1 : Int32) - ia)), .val (.int ib), .val (.int ic), .val (.ref b1), .val (.long ((1 : Int64) <<< (ib &&& 0x3f).toInt64)), .second, .val (.long q2), .second, .val (.long (q2 &&& (((1 : Int64) <<< (ib &&& 0x3f).toInt64) ^^^ (-1 : Int64)))), .second, .unset, .unset, .unset] [(.long (0 : Int64)), (.long ((((q2 &&& (((1 : Int64) <<< (ib &&& 0x3f).toInt64) ^^^ (-1 : Int64))).toUInt64 >>> (ib &&& 0x3f).toInt64.toUInt64).toInt64) &&& (1 : Int64)))]))
    refine own_st (fun t k => XS.lcmp X8.here hx rfl (hb hby at_116) rfl k) ?_
    show own_Go p e below K (T8.setTop (mkF m 117 #[.val (.long q1), .second, .val (.long q2), .second, .val (.long q3), .second, .val (.int p4), .val (.int p5), .val (.int p6), .val (.int (1 : Int32)), .val (.int ia), .val (.int ((1 : Int32) - ia)), .val (.int ib), .val (.int ic), .val (.ref b1), .val (.long ((1 : Int64) <<< (ib &&& 0x3f).toInt64)), .second, .val (.long q2), .second, .val (.long (q2 &&& (((1 : Int64) <<< (ib &&& 0x3f).toInt64) ^^^ (-1 : Int64)))), .second, .unset, .unset, .unset] [(.int (lcmpW ((((q2 &&& (((1 : Int64) <<< (ib &&& 0x3f).toInt64) ^^^ (-1 : Int64))).toUInt64 >>> (ib &&& 0x3f).toInt64.toUInt64).toInt64) &&& (1 : Int64)) (0 : Int64)))]))
    refine own_st (fun t k => XS.ifNo X8.here hx rfl (hb hby at_117) rfl ((if0 _ _).trans (teq ((lw_eq _ _).mpr (own_clr _ _ : ((((q2 &&& (((1 : Int64) <<< (ib &&& 0x3f).toInt64) ^^^ (-1 : Int64))).toUInt64 >>> (ib &&& 0x3f).toInt64.toUInt64).toInt64) &&& (1 : Int64)) = (0 : Int64)))).2) k) ?_
    show own_Go p e below K (T8.setTop (mkF m 120 #[.val (.long q1), .second, .val (.long q2), .second, .val (.long q3), .second, .val (.int p4), .val (.int p5), .val (.int p6), .val (.int (1 : Int32)), .val (.int ia), .val (.int ((1 : Int32) - ia)), .val (.int ib), .val (.int ic), .val (.ref b1), .val (.long ((1 : Int64) <<< (ib &&& 0x3f).toInt64)), .second, .val (.long q2), .second, .val (.long (q2 &&& (((1 : Int64) <<< (ib &&& 0x3f).toInt64) ^^^ (-1 : Int64)))), .second, .unset, .unset, .unset] []))
    refine own_st (fun t k => XS.iconst X8.here hx rfl (hb hby at_120) k) ?_
    show own_Go p e below K (T8.setTop (mkF m 121 #[.val (.long q1), .second, .val (.long q2), .second, .val (.long q3), .second, .val (.int p4), .val (.int p5), .val (.int p6), .val (.int (1 : Int32)), .val (.int ia), .val (.int ((1 : Int32) - ia)), .val (.int ib), .val (.int ic), .val (.ref b1), .val (.long ((1 : Int64) <<< (ib &&& 0x3f).toInt64)), .second, .val (.long q2), .second, .val (.long (q2 &&& (((1 : Int64) <<< (ib &&& 0x3f).toInt64) ^^^ (-1 : Int64)))), .second, .unset, .unset, .unset] [(.int (1 : Int32))]))
    refine own_st (fun t k => XS.goto X8.here hx rfl (pc0 := 121) (pc' := 125) rfl (hb hby at_121) (by decide) (by decide) k) ?_
    show own_Go p e below K (T8.setTop (mkF m 125 #[.val (.long q1), .second, .val (.long q2), .second, .val (.long q3), .second, .val (.int p4), .val (.int p5), .val (.int p6), .val (.int (1 : Int32)), .val (.int ia), .val (.int ((1 : Int32) - ia)), .val (.int ib), .val (.int ic), .val (.ref b1), .val (.long ((1 : Int64) <<< (ib &&& 0x3f).toInt64)), .second, .val (.long q2), .second, .val (.long (q2 &&& (((1 : Int64) <<< (ib &&& 0x3f).toInt64) ^^^ (-1 : Int64)))), .second, .unset, .unset, .unset] [(.int (1 : Int32))]))
    refine own_st (fun t k => XS.istore X8.here hx rfl (hb hby at_125) rfl (l' := #[.val (.long q1), .second, .val (.long q2), .second, .val (.long q3), .second, .val (.int p4), .val (.int p5), .val (.int p6), .val (.int (1 : Int32)), .val (.int ia), .val (.int ((1 : Int32) - ia)), .val (.int ib), .val (.int ic), .val (.ref b1), .val (.long ((1 : Int64) <<< (ib &&& 0x3f).toInt64)), .second, .val (.long q2), .second, .val (.long (q2 &&& (((1 : Int64) <<< (ib &&& 0x3f).toInt64) ^^^ (-1 : Int64)))), .second, .val (.int (1 : Int32)), .unset, .unset]) rfl k) ?_
    show own_Go p e below K (T8.setTop (mkF m 127 #[.val (.long q1), .second, .val (.long q2), .second, .val (.long q3), .second, .val (.int p4), .val (.int p5), .val (.int p6), .val (.int (1 : Int32)), .val (.int ia), .val (.int ((1 : Int32) - ia)), .val (.int ib), .val (.int ic), .val (.ref b1), .val (.long ((1 : Int64) <<< (ib &&& 0x3f).toInt64)), .second, .val (.long q2), .second, .val (.long (q2 &&& (((1 : Int64) <<< (ib &&& 0x3f).toInt64) ^^^ (-1 : Int64)))), .second, .val (.int (1 : Int32)), .unset, .unset] []))
    refine own_st (fun t k => XS.lload X8.here hx rfl (hb hby at_127) rfl k) ?_
    show own_Go p e below K (T8.setTop (mkF m 129 #[.val (.long q1), .second, .val (.long q2), .second, .val (.long q3), .second, .val (.int p4), .val (.int p5), .val (.int p6), .val (.int (1 : Int32)), .val (.int ia), .val (.int ((1 : Int32) - ia)), .val (.int ib), .val (.int ic), .val (.ref b1), .val (.long ((1 : Int64) <<< (ib &&& 0x3f).toInt64)), .second, .val (.long q2), .second, .val (.long (q2 &&& (((1 : Int64) <<< (ib &&& 0x3f).toInt64) ^^^ (-1 : Int64)))), .second, .val (.int (1 : Int32)), .unset, .unset] [(.long (q2 &&& (((1 : Int64) <<< (ib &&& 0x3f).toInt64) ^^^ (-1 : Int64))))]))
    refine own_st (fun t k => XS.lload X8.here hx rfl (hb hby at_129) rfl k) ?_
    show own_Go p e below K (T8.setTop (mkF m 131 #[.val (.long q1), .second, .val (.long q2), .second, .val (.long q3), .second, .val (.int p4), .val (.int p5), .val (.int p6), .val (.int (1 : Int32)), .val (.int ia), .val (.int ((1 : Int32) - ia)), .val (.int ib), .val (.int ic), .val (.ref b1), .val (.long ((1 : Int64) <<< (ib &&& 0x3f).toInt64)), .second, .val (.long q2), .second, .val (.long (q2 &&& (((1 : Int64) <<< (ib &&& 0x3f).toInt64) ^^^ (-1 : Int64)))), .second, .val (.int (1 : Int32)), .unset, .unset] [(.long ((1 : Int64) <<< (ib &&& 0x3f).toInt64)), (.long (q2 &&& (((1 : Int64) <<< (ib &&& 0x3f).toInt64) ^^^ (-1 : Int64))))]))
    refine own_st (fun t k => XS.lor X8.here hx rfl (hb hby at_131) rfl k) ?_
    show own_Go p e below K (T8.setTop (mkF m 132 #[.val (.long q1), .second, .val (.long q2), .second, .val (.long q3), .second, .val (.int p4), .val (.int p5), .val (.int p6), .val (.int (1 : Int32)), .val (.int ia), .val (.int ((1 : Int32) - ia)), .val (.int ib), .val (.int ic), .val (.ref b1), .val (.long ((1 : Int64) <<< (ib &&& 0x3f).toInt64)), .second, .val (.long q2), .second, .val (.long (q2 &&& (((1 : Int64) <<< (ib &&& 0x3f).toInt64) ^^^ (-1 : Int64)))), .second, .val (.int (1 : Int32)), .unset, .unset] [(.long ((q2 &&& (((1 : Int64) <<< (ib &&& 0x3f).toInt64) ^^^ (-1 : Int64))) ||| ((1 : Int64) <<< (ib &&& 0x3f).toInt64)))]))
    refine own_st (fun t k => XS.lload X8.here hx rfl (hb hby at_132) rfl k) ?_
    show own_Go p e below K (T8.setTop (mkF m 134 #[.val (.long q1), .second, .val (.long q2), .second, .val (.long q3), .second, .val (.int p4), .val (.int p5), .val (.int p6), .val (.int (1 : Int32)), .val (.int ia), .val (.int ((1 : Int32) - ia)), .val (.int ib), .val (.int ic), .val (.ref b1), .val (.long ((1 : Int64) <<< (ib &&& 0x3f).toInt64)), .second, .val (.long q2), .second, .val (.long (q2 &&& (((1 : Int64) <<< (ib &&& 0x3f).toInt64) ^^^ (-1 : Int64)))), .second, .val (.int (1 : Int32)), .unset, .unset] [(.long q2), (.long ((q2 &&& (((1 : Int64) <<< (ib &&& 0x3f).toInt64) ^^^ (-1 : Int64))) ||| ((1 : Int64) <<< (ib &&& 0x3f).toInt64)))]))
    refine own_st (fun t k => XS.lload X8.here hx rfl (hb hby at_134) rfl k) ?_
    show own_Go p e below K (T8.setTop (mkF m 136 #[.val (.long q1), .second, .val (.long q2), .second, .val (.long q3), .second, .val (.int p4), .val (.int p5), .val (.int p6), .val (.int (1 : Int32)), .val (.int ia), .val (.int ((1 : Int32) - ia)), .val (.int ib), .val (.int ic), .val (.ref b1), .val (.long ((1 : Int64) <<< (ib &&& 0x3f).toInt64)), .second, .val (.long q2), .second, .val (.long (q2 &&& (((1 : Int64) <<< (ib &&& 0x3f).toInt64) ^^^ (-1 : Int64)))), .second, .val (.int (1 : Int32)), .unset, .unset] [(.long ((1 : Int64) <<< (ib &&& 0x3f).toInt64)), (.long q2), (.long ((q2 &&& (((1 : Int64) <<< (ib &&& 0x3f).toInt64) ^^^ (-1 : Int64))) ||| ((1 : Int64) <<< (ib &&& 0x3f).toInt64)))]))
    refine own_st (fun t k => XS.lor X8.here hx rfl (hb hby at_136) rfl k) ?_
    show own_Go p e below K (T8.setTop (mkF m 137 #[.val (.long q1), .second, .val (.long q2), .second, .val (.long q3), .second, .val (.int p4), .val (.int p5), .val (.int p6), .val (.int (1 : Int32)), .val (.int ia), .val (.int ((1 : Int32) - ia)), .val (.int ib), .val (.int ic), .val (.ref b1), .val (.long ((1 : Int64) <<< (ib &&& 0x3f).toInt64)), .second, .val (.long q2), .second, .val (.long (q2 &&& (((1 : Int64) <<< (ib &&& 0x3f).toInt64) ^^^ (-1 : Int64)))), .second, .val (.int (1 : Int32)), .unset, .unset] [(.long (q2 ||| ((1 : Int64) <<< (ib &&& 0x3f).toInt64))), (.long ((q2 &&& (((1 : Int64) <<< (ib &&& 0x3f).toInt64) ^^^ (-1 : Int64))) ||| ((1 : Int64) <<< (ib &&& 0x3f).toInt64)))]))
    refine own_st (fun t k => XS.lcmp X8.here hx rfl (hb hby at_137) rfl k) ?_
    show own_Go p e below K (T8.setTop (mkF m 138 #[.val (.long q1), .second, .val (.long q2), .second, .val (.long q3), .second, .val (.int p4), .val (.int p5), .val (.int p6), .val (.int (1 : Int32)), .val (.int ia), .val (.int ((1 : Int32) - ia)), .val (.int ib), .val (.int ic), .val (.ref b1), .val (.long ((1 : Int64) <<< (ib &&& 0x3f).toInt64)), .second, .val (.long q2), .second, .val (.long (q2 &&& (((1 : Int64) <<< (ib &&& 0x3f).toInt64) ^^^ (-1 : Int64)))), .second, .val (.int (1 : Int32)), .unset, .unset] [(.int (lcmpW ((q2 &&& (((1 : Int64) <<< (ib &&& 0x3f).toInt64) ^^^ (-1 : Int64))) ||| ((1 : Int64) <<< (ib &&& 0x3f).toInt64)) (q2 ||| ((1 : Int64) <<< (ib &&& 0x3f).toInt64))))]))
    refine own_st (fun t k => XS.ifNo X8.here hx rfl (hb hby at_138) rfl ((if0 _ _).trans (teq ((lw_eq _ _).mpr (own_or _ _ : ((q2 &&& (((1 : Int64) <<< (ib &&& 0x3f).toInt64) ^^^ (-1 : Int64))) ||| ((1 : Int64) <<< (ib &&& 0x3f).toInt64)) = (q2 ||| ((1 : Int64) <<< (ib &&& 0x3f).toInt64))))).2) k) ?_
    show own_Go p e below K (T8.setTop (mkF m 141 #[.val (.long q1), .second, .val (.long q2), .second, .val (.long q3), .second, .val (.int p4), .val (.int p5), .val (.int p6), .val (.int (1 : Int32)), .val (.int ia), .val (.int ((1 : Int32) - ia)), .val (.int ib), .val (.int ic), .val (.ref b1), .val (.long ((1 : Int64) <<< (ib &&& 0x3f).toInt64)), .second, .val (.long q2), .second, .val (.long (q2 &&& (((1 : Int64) <<< (ib &&& 0x3f).toInt64) ^^^ (-1 : Int64)))), .second, .val (.int (1 : Int32)), .unset, .unset] []))
    refine own_st (fun t k => XS.iconst X8.here hx rfl (hb hby at_141) k) ?_
    show own_Go p e below K (T8.setTop (mkF m 142 #[.val (.long q1), .second, .val (.long q2), .second, .val (.long q3), .second, .val (.int p4), .val (.int p5), .val (.int p6), .val (.int (1 : Int32)), .val (.int ia), .val (.int ((1 : Int32) - ia)), .val (.int ib), .val (.int ic), .val (.ref b1), .val (.long ((1 : Int64) <<< (ib &&& 0x3f).toInt64)), .second, .val (.long q2), .second, .val (.long (q2 &&& (((1 : Int64) <<< (ib &&& 0x3f).toInt64) ^^^ (-1 : Int64)))), .second, .val (.int (1 : Int32)), .unset, .unset] [(.int (1 : Int32))]))
    refine own_st (fun t k => XS.goto X8.here hx rfl (pc0 := 142) (pc' := 146) rfl (hb hby at_142) (by decide) (by decide) k) ?_
    show own_Go p e below K (T8.setTop (mkF m 146 #[.val (.long q1), .second, .val (.long q2), .second, .val (.long q3), .second, .val (.int p4), .val (.int p5), .val (.int p6), .val (.int (1 : Int32)), .val (.int ia), .val (.int ((1 : Int32) - ia)), .val (.int ib), .val (.int ic), .val (.ref b1), .val (.long ((1 : Int64) <<< (ib &&& 0x3f).toInt64)), .second, .val (.long q2), .second, .val (.long (q2 &&& (((1 : Int64) <<< (ib &&& 0x3f).toInt64) ^^^ (-1 : Int64)))), .second, .val (.int (1 : Int32)), .unset, .unset] [(.int (1 : Int32))]))
    refine own_st (fun t k => XS.istore X8.here hx rfl (hb hby at_146) rfl (l' := #[.val (.long q1), .second, .val (.long q2), .second, .val (.long q3), .second, .val (.int p4), .val (.int p5), .val (.int p6), .val (.int (1 : Int32)), .val (.int ia), .val (.int ((1 : Int32) - ia)), .val (.int ib), .val (.int ic), .val (.ref b1), .val (.long ((1 : Int64) <<< (ib &&& 0x3f).toInt64)), .second, .val (.long q2), .second, .val (.long (q2 &&& (((1 : Int64) <<< (ib &&& 0x3f).toInt64) ^^^ (-1 : Int64)))), .second, .val (.int (1 : Int32)), .val (.int (1 : Int32)), .unset]) rfl k) ?_
    show own_Go p e below K (T8.setTop (mkF m 148 #[.val (.long q1), .second, .val (.long q2), .second, .val (.long q3), .second, .val (.int p4), .val (.int p5), .val (.int p6), .val (.int (1 : Int32)), .val (.int ia), .val (.int ((1 : Int32) - ia)), .val (.int ib), .val (.int ic), .val (.ref b1), .val (.long ((1 : Int64) <<< (ib &&& 0x3f).toInt64)), .second, .val (.long q2), .second, .val (.long (q2 &&& (((1 : Int64) <<< (ib &&& 0x3f).toInt64) ^^^ (-1 : Int64)))), .second, .val (.int (1 : Int32)), .val (.int (1 : Int32)), .unset] []))
    refine own_st (fun t k => XS.iload X8.here hx rfl (hb hby at_148) rfl k) ?_
    show own_Go p e below K (T8.setTop (mkF m 150 #[.val (.long q1), .second, .val (.long q2), .second, .val (.long q3), .second, .val (.int p4), .val (.int p5), .val (.int p6), .val (.int (1 : Int32)), .val (.int ia), .val (.int ((1 : Int32) - ia)), .val (.int ib), .val (.int ic), .val (.ref b1), .val (.long ((1 : Int64) <<< (ib &&& 0x3f).toInt64)), .second, .val (.long q2), .second, .val (.long (q2 &&& (((1 : Int64) <<< (ib &&& 0x3f).toInt64) ^^^ (-1 : Int64)))), .second, .val (.int (1 : Int32)), .val (.int (1 : Int32)), .unset] [(.int (1 : Int32))]))
    refine own_st (fun t k => XS.ifNo X8.here hx rfl (hb hby at_150) rfl ((if0 _ _).trans (feq (by decide : ¬ ((1 : Int32) = (0 : Int32)))).1) k) ?_
    show own_Go p e below K (T8.setTop (mkF m 153 #[.val (.long q1), .second, .val (.long q2), .second, .val (.long q3), .second, .val (.int p4), .val (.int p5), .val (.int p6), .val (.int (1 : Int32)), .val (.int ia), .val (.int ((1 : Int32) - ia)), .val (.int ib), .val (.int ic), .val (.ref b1), .val (.long ((1 : Int64) <<< (ib &&& 0x3f).toInt64)), .second, .val (.long q2), .second, .val (.long (q2 &&& (((1 : Int64) <<< (ib &&& 0x3f).toInt64) ^^^ (-1 : Int64)))), .second, .val (.int (1 : Int32)), .val (.int (1 : Int32)), .unset] []))
    refine own_st (fun t k => XS.aload X8.here hx rfl (hb hby at_153) rfl rfl k) ?_
    show own_Go p e below K (T8.setTop (mkF m 155 #[.val (.long q1), .second, .val (.long q2), .second, .val (.long q3), .second, .val (.int p4), .val (.int p5), .val (.int p6), .val (.int (1 : Int32)), .val (.int ia), .val (.int ((1 : Int32) - ia)), .val (.int ib), .val (.int ic), .val (.ref b1), .val (.long ((1 : Int64) <<< (ib &&& 0x3f).toInt64)), .second, .val (.long q2), .second, .val (.long (q2 &&& (((1 : Int64) <<< (ib &&& 0x3f).toInt64) ^^^ (-1 : Int64)))), .second, .val (.int (1 : Int32)), .val (.int (1 : Int32)), .unset] [(.ref b1)]))
    refine own_st (fun t k => XS.iconst X8.here hx rfl (hb hby at_155) k) ?_
    show own_Go p e below K (T8.setTop (mkF m 156 #[.val (.long q1), .second, .val (.long q2), .second, .val (.long q3), .second, .val (.int p4), .val (.int p5), .val (.int p6), .val (.int (1 : Int32)), .val (.int ia), .val (.int ((1 : Int32) - ia)), .val (.int ib), .val (.int ic), .val (.ref b1), .val (.long ((1 : Int64) <<< (ib &&& 0x3f).toInt64)), .second, .val (.long q2), .second, .val (.long (q2 &&& (((1 : Int64) <<< (ib &&& 0x3f).toInt64) ^^^ (-1 : Int64)))), .second, .val (.int (1 : Int32)), .val (.int (1 : Int32)), .unset] [(.int (0 : Int32)), (.ref b1)]))
    obtain ⟨cl13, Ar13, qa13, Sa13, Ma13, Ha13, Ga13⟩ := id VV
    have hin13 : ¬ ((0 : Int32) < 0 ∨ cl13.slots.size ≤ ((0 : Int32)).toNatClampNeg) := inb_of Sa13 ⟨by decide, by decide⟩
    refine own_st (X8.laload hx (j := (0 : Int32)) (v := (.long q1)) (own_hat rfl Ar13.1) (State.isArrayOf_alike hZ.alike Ar13.2.1) Ar13.2.2 hin13 (Has.at Ha13 hin13 rfl) (g := (mkF m 156 #[.val (.long q1), .second, .val (.long q2), .second, .val (.long q3), .second, .val (.int p4), .val (.int p5), .val (.int p6), .val (.int (1 : Int32)), .val (.int ia), .val (.int ((1 : Int32) - ia)), .val (.int ib), .val (.int ic), .val (.ref b1), .val (.long ((1 : Int64) <<< (ib &&& 0x3f).toInt64)), .second, .val (.long q2), .second, .val (.long (q2 &&& (((1 : Int64) <<< (ib &&& 0x3f).toInt64) ^^^ (-1 : Int64)))), .second, .val (.int (1 : Int32)), .val (.int (1 : Int32)), .unset] [(.int (0 : Int32)), (.ref b1)])) rfl rfl (hb hby at_156)) ?_
    show own_Go p e below K (T8.setTop (mkF m 157 #[.val (.long q1), .second, .val (.long q2), .second, .val (.long q3), .second, .val (.int p4), .val (.int p5), .val (.int p6), .val (.int (1 : Int32)), .val (.int ia), .val (.int ((1 : Int32) - ia)), .val (.int ib), .val (.int ic), .val (.ref b1), .val (.long ((1 : Int64) <<< (ib &&& 0x3f).toInt64)), .second, .val (.long q2), .second, .val (.long (q2 &&& (((1 : Int64) <<< (ib &&& 0x3f).toInt64) ^^^ (-1 : Int64)))), .second, .val (.int (1 : Int32)), .val (.int (1 : Int32)), .unset] [(.long q1)]))
    refine own_st (fun t k => XS.lloadN X8.here hx rfl (hb hby at_157) rfl k) ?_
    show own_Go p e below K (T8.setTop (mkF m 158 #[.val (.long q1), .second, .val (.long q2), .second, .val (.long q3), .second, .val (.int p4), .val (.int p5), .val (.int p6), .val (.int (1 : Int32)), .val (.int ia), .val (.int ((1 : Int32) - ia)), .val (.int ib), .val (.int ic), .val (.ref b1), .val (.long ((1 : Int64) <<< (ib &&& 0x3f).toInt64)), .second, .val (.long q2), .second, .val (.long (q2 &&& (((1 : Int64) <<< (ib &&& 0x3f).toInt64) ^^^ (-1 : Int64)))), .second, .val (.int (1 : Int32)), .val (.int (1 : Int32)), .unset] [(.long q1), (.long q1)]))
    refine own_st (fun t k => XS.lcmp X8.here hx rfl (hb hby at_158) rfl k) ?_
    show own_Go p e below K (T8.setTop (mkF m 159 #[.val (.long q1), .second, .val (.long q2), .second, .val (.long q3), .second, .val (.int p4), .val (.int p5), .val (.int p6), .val (.int (1 : Int32)), .val (.int ia), .val (.int ((1 : Int32) - ia)), .val (.int ib), .val (.int ic), .val (.ref b1), .val (.long ((1 : Int64) <<< (ib &&& 0x3f).toInt64)), .second, .val (.long q2), .second, .val (.long (q2 &&& (((1 : Int64) <<< (ib &&& 0x3f).toInt64) ^^^ (-1 : Int64)))), .second, .val (.int (1 : Int32)), .val (.int (1 : Int32)), .unset] [(.int (lcmpW q1 q1))]))
    refine own_st (fun t k => XS.ifNo X8.here hx rfl (hb hby at_159) rfl ((if0 _ _).trans (teq ((lw_eq _ _).mpr (rfl : q1 = q1))).2) k) ?_
    show own_Go p e below K (T8.setTop (mkF m 162 #[.val (.long q1), .second, .val (.long q2), .second, .val (.long q3), .second, .val (.int p4), .val (.int p5), .val (.int p6), .val (.int (1 : Int32)), .val (.int ia), .val (.int ((1 : Int32) - ia)), .val (.int ib), .val (.int ic), .val (.ref b1), .val (.long ((1 : Int64) <<< (ib &&& 0x3f).toInt64)), .second, .val (.long q2), .second, .val (.long (q2 &&& (((1 : Int64) <<< (ib &&& 0x3f).toInt64) ^^^ (-1 : Int64)))), .second, .val (.int (1 : Int32)), .val (.int (1 : Int32)), .unset] []))
    refine own_st (fun t k => XS.iload X8.here hx rfl (hb hby at_162) rfl k) ?_
    show own_Go p e below K (T8.setTop (mkF m 164 #[.val (.long q1), .second, .val (.long q2), .second, .val (.long q3), .second, .val (.int p4), .val (.int p5), .val (.int p6), .val (.int (1 : Int32)), .val (.int ia), .val (.int ((1 : Int32) - ia)), .val (.int ib), .val (.int ic), .val (.ref b1), .val (.long ((1 : Int64) <<< (ib &&& 0x3f).toInt64)), .second, .val (.long q2), .second, .val (.long (q2 &&& (((1 : Int64) <<< (ib &&& 0x3f).toInt64) ^^^ (-1 : Int64)))), .second, .val (.int (1 : Int32)), .val (.int (1 : Int32)), .unset] [(.int (1 : Int32))]))
    refine own_st (fun t k => XS.iconst X8.here hx rfl (hb hby at_164) k) ?_
    show own_Go p e below K (T8.setTop (mkF m 165 #[.val (.long q1), .second, .val (.long q2), .second, .val (.long q3), .second, .val (.int p4), .val (.int p5), .val (.int p6), .val (.int (1 : Int32)), .val (.int ia), .val (.int ((1 : Int32) - ia)), .val (.int ib), .val (.int ic), .val (.ref b1), .val (.long ((1 : Int64) <<< (ib &&& 0x3f).toInt64)), .second, .val (.long q2), .second, .val (.long (q2 &&& (((1 : Int64) <<< (ib &&& 0x3f).toInt64) ^^^ (-1 : Int64)))), .second, .val (.int (1 : Int32)), .val (.int (1 : Int32)), .unset] [(.int (1 : Int32)), (.int (1 : Int32))]))
    refine own_st (fun t k => XS.icmpYes X8.here hx rfl (pc0 := 165) (pc' := 177) rfl (hb hby at_165) rfl (teq (by decide : (1 : Int32) = (1 : Int32))).1 (by decide) (by decide) k) ?_
    show own_Go p e below K (T8.setTop (mkF m 177 #[.val (.long q1), .second, .val (.long q2), .second, .val (.long q3), .second, .val (.int p4), .val (.int p5), .val (.int p6), .val (.int (1 : Int32)), .val (.int ia), .val (.int ((1 : Int32) - ia)), .val (.int ib), .val (.int ic), .val (.ref b1), .val (.long ((1 : Int64) <<< (ib &&& 0x3f).toInt64)), .second, .val (.long q2), .second, .val (.long (q2 &&& (((1 : Int64) <<< (ib &&& 0x3f).toInt64) ^^^ (-1 : Int64)))), .second, .val (.int (1 : Int32)), .val (.int (1 : Int32)), .unset] []))
    refine own_st (fun t k => XS.iload X8.here hx rfl (hb hby at_177) rfl k) ?_
    show own_Go p e below K (T8.setTop (mkF m 179 #[.val (.long q1), .second, .val (.long q2), .second, .val (.long q3), .second, .val (.int p4), .val (.int p5), .val (.int p6), .val (.int (1 : Int32)), .val (.int ia), .val (.int ((1 : Int32) - ia)), .val (.int ib), .val (.int ic), .val (.ref b1), .val (.long ((1 : Int64) <<< (ib &&& 0x3f).toInt64)), .second, .val (.long q2), .second, .val (.long (q2 &&& (((1 : Int64) <<< (ib &&& 0x3f).toInt64) ^^^ (-1 : Int64)))), .second, .val (.int (1 : Int32)), .val (.int (1 : Int32)), .unset] [(.int (1 : Int32))]))
    refine own_st (fun t k => XS.iconst X8.here hx rfl (hb hby at_179) k) ?_
    show own_Go p e below K (T8.setTop (mkF m 180 #[.val (.long q1), .second, .val (.long q2), .second, .val (.long q3), .second, .val (.int p4), .val (.int p5), .val (.int p6), .val (.int (1 : Int32)), .val (.int ia), .val (.int ((1 : Int32) - ia)), .val (.int ib), .val (.int ic), .val (.ref b1), .val (.long ((1 : Int64) <<< (ib &&& 0x3f).toInt64)), .second, .val (.long q2), .second, .val (.long (q2 &&& (((1 : Int64) <<< (ib &&& 0x3f).toInt64) ^^^ (-1 : Int64)))), .second, .val (.int (1 : Int32)), .val (.int (1 : Int32)), .unset] [(.int (2 : Int32)), (.int (1 : Int32))]))
    refine own_st (fun t k => XS.icmpNo X8.here hx rfl (hb hby at_180) rfl (feq (by decide : ¬ ((1 : Int32) = (2 : Int32)))).1 k) ?_
    show own_Go p e below K (T8.setTop (mkF m 183 #[.val (.long q1), .second, .val (.long q2), .second, .val (.long q3), .second, .val (.int p4), .val (.int p5), .val (.int p6), .val (.int (1 : Int32)), .val (.int ia), .val (.int ((1 : Int32) - ia)), .val (.int ib), .val (.int ic), .val (.ref b1), .val (.long ((1 : Int64) <<< (ib &&& 0x3f).toInt64)), .second, .val (.long q2), .second, .val (.long (q2 &&& (((1 : Int64) <<< (ib &&& 0x3f).toInt64) ^^^ (-1 : Int64)))), .second, .val (.int (1 : Int32)), .val (.int (1 : Int32)), .unset] []))
    refine own_st (fun t k => XS.aload X8.here hx rfl (hb hby at_183) rfl rfl k) ?_
    show own_Go p e below K (T8.setTop (mkF m 185 #[.val (.long q1), .second, .val (.long q2), .second, .val (.long q3), .second, .val (.int p4), .val (.int p5), .val (.int p6), .val (.int (1 : Int32)), .val (.int ia), .val (.int ((1 : Int32) - ia)), .val (.int ib), .val (.int ic), .val (.ref b1), .val (.long ((1 : Int64) <<< (ib &&& 0x3f).toInt64)), .second, .val (.long q2), .second, .val (.long (q2 &&& (((1 : Int64) <<< (ib &&& 0x3f).toInt64) ^^^ (-1 : Int64)))), .second, .val (.int (1 : Int32)), .val (.int (1 : Int32)), .unset] [(.ref b1)]))
    refine own_st (fun t k => XS.iconst X8.here hx rfl (hb hby at_185) k) ?_
    show own_Go p e below K (T8.setTop (mkF m 186 #[.val (.long q1), .second, .val (.long q2), .second, .val (.long q3), .second, .val (.int p4), .val (.int p5), .val (.int p6), .val (.int (1 : Int32)), .val (.int ia), .val (.int ((1 : Int32) - ia)), .val (.int ib), .val (.int ic), .val (.ref b1), .val (.long ((1 : Int64) <<< (ib &&& 0x3f).toInt64)), .second, .val (.long q2), .second, .val (.long (q2 &&& (((1 : Int64) <<< (ib &&& 0x3f).toInt64) ^^^ (-1 : Int64)))), .second, .val (.int (1 : Int32)), .val (.int (1 : Int32)), .unset] [(.int (2 : Int32)), (.ref b1)]))
    obtain ⟨cl14, Ar14, qa14, Sa14, Ma14, Ha14, Ga14⟩ := id VV
    have hin14 : ¬ ((2 : Int32) < 0 ∨ cl14.slots.size ≤ ((2 : Int32)).toNatClampNeg) := inb_of Sa14 ⟨by decide, by decide⟩
    refine own_st (X8.laload hx (j := (2 : Int32)) (v := (.long q3)) (own_hat rfl Ar14.1) (State.isArrayOf_alike hZ.alike Ar14.2.1) Ar14.2.2 hin14 (Has.at Ha14 hin14 rfl) (g := (mkF m 186 #[.val (.long q1), .second, .val (.long q2), .second, .val (.long q3), .second, .val (.int p4), .val (.int p5), .val (.int p6), .val (.int (1 : Int32)), .val (.int ia), .val (.int ((1 : Int32) - ia)), .val (.int ib), .val (.int ic), .val (.ref b1), .val (.long ((1 : Int64) <<< (ib &&& 0x3f).toInt64)), .second, .val (.long q2), .second, .val (.long (q2 &&& (((1 : Int64) <<< (ib &&& 0x3f).toInt64) ^^^ (-1 : Int64)))), .second, .val (.int (1 : Int32)), .val (.int (1 : Int32)), .unset] [(.int (2 : Int32)), (.ref b1)])) rfl rfl (hb hby at_186)) ?_
    show own_Go p e below K (T8.setTop (mkF m 187 #[.val (.long q1), .second, .val (.long q2), .second, .val (.long q3), .second, .val (.int p4), .val (.int p5), .val (.int p6), .val (.int (1 : Int32)), .val (.int ia), .val (.int ((1 : Int32) - ia)), .val (.int ib), .val (.int ic), .val (.ref b1), .val (.long ((1 : Int64) <<< (ib &&& 0x3f).toInt64)), .second, .val (.long q2), .second, .val (.long (q2 &&& (((1 : Int64) <<< (ib &&& 0x3f).toInt64) ^^^ (-1 : Int64)))), .second, .val (.int (1 : Int32)), .val (.int (1 : Int32)), .unset] [(.long q3)]))
    refine own_st (fun t k => XS.lload X8.here hx rfl (hb hby at_187) rfl k) ?_
    show own_Go p e below K (T8.setTop (mkF m 189 #[.val (.long q1), .second, .val (.long q2), .second, .val (.long q3), .second, .val (.int p4), .val (.int p5), .val (.int p6), .val (.int (1 : Int32)), .val (.int ia), .val (.int ((1 : Int32) - ia)), .val (.int ib), .val (.int ic), .val (.ref b1), .val (.long ((1 : Int64) <<< (ib &&& 0x3f).toInt64)), .second, .val (.long q2), .second, .val (.long (q2 &&& (((1 : Int64) <<< (ib &&& 0x3f).toInt64) ^^^ (-1 : Int64)))), .second, .val (.int (1 : Int32)), .val (.int (1 : Int32)), .unset] [(.long q3), (.long q3)]))
    refine own_st (fun t k => XS.lcmp X8.here hx rfl (hb hby at_189) rfl k) ?_
    show own_Go p e below K (T8.setTop (mkF m 190 #[.val (.long q1), .second, .val (.long q2), .second, .val (.long q3), .second, .val (.int p4), .val (.int p5), .val (.int p6), .val (.int (1 : Int32)), .val (.int ia), .val (.int ((1 : Int32) - ia)), .val (.int ib), .val (.int ic), .val (.ref b1), .val (.long ((1 : Int64) <<< (ib &&& 0x3f).toInt64)), .second, .val (.long q2), .second, .val (.long (q2 &&& (((1 : Int64) <<< (ib &&& 0x3f).toInt64) ^^^ (-1 : Int64)))), .second, .val (.int (1 : Int32)), .val (.int (1 : Int32)), .unset] [(.int (lcmpW q3 q3))]))
    refine own_st (fun t k => XS.ifNo X8.here hx rfl (hb hby at_190) rfl ((if0 _ _).trans (teq ((lw_eq _ _).mpr (rfl : q3 = q3))).2) k) ?_
    show own_Go p e below K (T8.setTop (mkF m 193 #[.val (.long q1), .second, .val (.long q2), .second, .val (.long q3), .second, .val (.int p4), .val (.int p5), .val (.int p6), .val (.int (1 : Int32)), .val (.int ia), .val (.int ((1 : Int32) - ia)), .val (.int ib), .val (.int ic), .val (.ref b1), .val (.long ((1 : Int64) <<< (ib &&& 0x3f).toInt64)), .second, .val (.long q2), .second, .val (.long (q2 &&& (((1 : Int64) <<< (ib &&& 0x3f).toInt64) ^^^ (-1 : Int64)))), .second, .val (.int (1 : Int32)), .val (.int (1 : Int32)), .unset] []))
    refine own_st (fun t k => XS.iconst X8.here hx rfl (hb hby at_193) k) ?_
    show own_Go p e below K (T8.setTop (mkF m 194 #[.val (.long q1), .second, .val (.long q2), .second, .val (.long q3), .second, .val (.int p4), .val (.int p5), .val (.int p6), .val (.int (1 : Int32)), .val (.int ia), .val (.int ((1 : Int32) - ia)), .val (.int ib), .val (.int ic), .val (.ref b1), .val (.long ((1 : Int64) <<< (ib &&& 0x3f).toInt64)), .second, .val (.long q2), .second, .val (.long (q2 &&& (((1 : Int64) <<< (ib &&& 0x3f).toInt64) ^^^ (-1 : Int64)))), .second, .val (.int (1 : Int32)), .val (.int (1 : Int32)), .unset] [(.int (1 : Int32))]))
    refine own_st (fun t k => XS.goto X8.here hx rfl (pc0 := 194) (pc' := 198) rfl (hb hby at_194) (by decide) (by decide) k) ?_
    show own_Go p e below K (T8.setTop (mkF m 198 #[.val (.long q1), .second, .val (.long q2), .second, .val (.long q3), .second, .val (.int p4), .val (.int p5), .val (.int p6), .val (.int (1 : Int32)), .val (.int ia), .val (.int ((1 : Int32) - ia)), .val (.int ib), .val (.int ic), .val (.ref b1), .val (.long ((1 : Int64) <<< (ib &&& 0x3f).toInt64)), .second, .val (.long q2), .second, .val (.long (q2 &&& (((1 : Int64) <<< (ib &&& 0x3f).toInt64) ^^^ (-1 : Int64)))), .second, .val (.int (1 : Int32)), .val (.int (1 : Int32)), .unset] [(.int (1 : Int32))]))
    refine own_st (fun t k => XS.istore X8.here hx rfl (hb hby at_198) rfl (l' := #[.val (.long q1), .second, .val (.long q2), .second, .val (.long q3), .second, .val (.int p4), .val (.int p5), .val (.int p6), .val (.int (1 : Int32)), .val (.int ia), .val (.int ((1 : Int32) - ia)), .val (.int ib), .val (.int ic), .val (.ref b1), .val (.long ((1 : Int64) <<< (ib &&& 0x3f).toInt64)), .second, .val (.long q2), .second, .val (.long (q2 &&& (((1 : Int64) <<< (ib &&& 0x3f).toInt64) ^^^ (-1 : Int64)))), .second, .val (.int (1 : Int32)), .val (.int (1 : Int32)), .val (.int (1 : Int32))]) rfl k) ?_
    show own_Go p e below K (T8.setTop (mkF m 200 #[.val (.long q1), .second, .val (.long q2), .second, .val (.long q3), .second, .val (.int p4), .val (.int p5), .val (.int p6), .val (.int (1 : Int32)), .val (.int ia), .val (.int ((1 : Int32) - ia)), .val (.int ib), .val (.int ic), .val (.ref b1), .val (.long ((1 : Int64) <<< (ib &&& 0x3f).toInt64)), .second, .val (.long q2), .second, .val (.long (q2 &&& (((1 : Int64) <<< (ib &&& 0x3f).toInt64) ^^^ (-1 : Int64)))), .second, .val (.int (1 : Int32)), .val (.int (1 : Int32)), .val (.int (1 : Int32))] []))
    refine own_st (fun t k => XS.iload X8.here hx rfl (hb hby at_200) rfl k) ?_
    show own_Go p e below K (T8.setTop (mkF m 202 #[.val (.long q1), .second, .val (.long q2), .second, .val (.long q3), .second, .val (.int p4), .val (.int p5), .val (.int p6), .val (.int (1 : Int32)), .val (.int ia), .val (.int ((1 : Int32) - ia)), .val (.int ib), .val (.int ic), .val (.ref b1), .val (.long ((1 : Int64) <<< (ib &&& 0x3f).toInt64)), .second, .val (.long q2), .second, .val (.long (q2 &&& (((1 : Int64) <<< (ib &&& 0x3f).toInt64) ^^^ (-1 : Int64)))), .second, .val (.int (1 : Int32)), .val (.int (1 : Int32)), .val (.int (1 : Int32))] [(.int (1 : Int32))]))
    refine own_st (fun t k => XS.ifNo X8.here hx rfl (hb hby at_202) rfl ((if0 _ _).trans (feq (by decide : ¬ ((1 : Int32) = (0 : Int32)))).1) k) ?_
    show own_Go p e below K (T8.setTop (mkF m 205 #[.val (.long q1), .second, .val (.long q2), .second, .val (.long q3), .second, .val (.int p4), .val (.int p5), .val (.int p6), .val (.int (1 : Int32)), .val (.int ia), .val (.int ((1 : Int32) - ia)), .val (.int ib), .val (.int ic), .val (.ref b1), .val (.long ((1 : Int64) <<< (ib &&& 0x3f).toInt64)), .second, .val (.long q2), .second, .val (.long (q2 &&& (((1 : Int64) <<< (ib &&& 0x3f).toInt64) ^^^ (-1 : Int64)))), .second, .val (.int (1 : Int32)), .val (.int (1 : Int32)), .val (.int (1 : Int32))] []))
    refine own_st (fun t k => XS.iload X8.here hx rfl (hb hby at_205) rfl k) ?_
    show own_Go p e below K (T8.setTop (mkF m 207 #[.val (.long q1), .second, .val (.long q2), .second, .val (.long q3), .second, .val (.int p4), .val (.int p5), .val (.int p6), .val (.int (1 : Int32)), .val (.int ia), .val (.int ((1 : Int32) - ia)), .val (.int ib), .val (.int ic), .val (.ref b1), .val (.long ((1 : Int64) <<< (ib &&& 0x3f).toInt64)), .second, .val (.long q2), .second, .val (.long (q2 &&& (((1 : Int64) <<< (ib &&& 0x3f).toInt64) ^^^ (-1 : Int64)))), .second, .val (.int (1 : Int32)), .val (.int (1 : Int32)), .val (.int (1 : Int32))] [(.int (1 : Int32))]))
    refine own_st (fun t k => XS.ifNo X8.here hx rfl (hb hby at_207) rfl ((if0 _ _).trans (feq (by decide : ¬ ((1 : Int32) = (0 : Int32)))).1) k) ?_
    show own_Go p e below K (T8.setTop (mkF m 210 #[.val (.long q1), .second, .val (.long q2), .second, .val (.long q3), .second, .val (.int p4), .val (.int p5), .val (.int p6), .val (.int (1 : Int32)), .val (.int ia), .val (.int ((1 : Int32) - ia)), .val (.int ib), .val (.int ic), .val (.ref b1), .val (.long ((1 : Int64) <<< (ib &&& 0x3f).toInt64)), .second, .val (.long q2), .second, .val (.long (q2 &&& (((1 : Int64) <<< (ib &&& 0x3f).toInt64) ^^^ (-1 : Int64)))), .second, .val (.int (1 : Int32)), .val (.int (1 : Int32)), .val (.int (1 : Int32))] []))
    refine own_st (fun t k => XS.iload X8.here hx rfl (hb hby at_210) rfl k) ?_
    show own_Go p e below K (T8.setTop (mkF m 212 #[.val (.long q1), .second, .val (.long q2), .second, .val (.long q3), .second, .val (.int p4), .val (.int p5), .val (.int p6), .val (.int (1 : Int32)), .val (.int ia), .val (.int ((1 : Int32) - ia)), .val (.int ib), .val (.int ic), .val (.ref b1), .val (.long ((1 : Int64) <<< (ib &&& 0x3f).toInt64)), .second, .val (.long q2), .second, .val (.long (q2 &&& (((1 : Int64) <<< (ib &&& 0x3f).toInt64) ^^^ (-1 : Int64)))), .second, .val (.int (1 : Int32)), .val (.int (1 : Int32)), .val (.int (1 : Int32))] [(.int (1 : Int32))]))
    refine own_st (fun t k => XS.ifNo X8.here hx rfl (hb hby at_212) rfl ((if0 _ _).trans (feq (by decide : ¬ ((1 : Int32) = (0 : Int32)))).1) k) ?_
    show own_Go p e below K (T8.setTop (mkF m 215 #[.val (.long q1), .second, .val (.long q2), .second, .val (.long q3), .second, .val (.int p4), .val (.int p5), .val (.int p6), .val (.int (1 : Int32)), .val (.int ia), .val (.int ((1 : Int32) - ia)), .val (.int ib), .val (.int ic), .val (.ref b1), .val (.long ((1 : Int64) <<< (ib &&& 0x3f).toInt64)), .second, .val (.long q2), .second, .val (.long (q2 &&& (((1 : Int64) <<< (ib &&& 0x3f).toInt64) ^^^ (-1 : Int64)))), .second, .val (.int (1 : Int32)), .val (.int (1 : Int32)), .val (.int (1 : Int32))] []))
    refine own_st (fun t k => XS.iconst X8.here hx rfl (hb hby at_215) k) ?_
    show own_Go p e below K (T8.setTop (mkF m 216 #[.val (.long q1), .second, .val (.long q2), .second, .val (.long q3), .second, .val (.int p4), .val (.int p5), .val (.int p6), .val (.int (1 : Int32)), .val (.int ia), .val (.int ((1 : Int32) - ia)), .val (.int ib), .val (.int ic), .val (.ref b1), .val (.long ((1 : Int64) <<< (ib &&& 0x3f).toInt64)), .second, .val (.long q2), .second, .val (.long (q2 &&& (((1 : Int64) <<< (ib &&& 0x3f).toInt64) ^^^ (-1 : Int64)))), .second, .val (.int (1 : Int32)), .val (.int (1 : Int32)), .val (.int (1 : Int32))] [(.int (1 : Int32))]))
    refine own_st (fun t k => XS.goto X8.here hx rfl (pc0 := 216) (pc' := 220) rfl (hb hby at_216) (by decide) (by decide) k) ?_
    show own_Go p e below K (T8.setTop (mkF m 220 #[.val (.long q1), .second, .val (.long q2), .second, .val (.long q3), .second, .val (.int p4), .val (.int p5), .val (.int p6), .val (.int (1 : Int32)), .val (.int ia), .val (.int ((1 : Int32) - ia)), .val (.int ib), .val (.int ic), .val (.ref b1), .val (.long ((1 : Int64) <<< (ib &&& 0x3f).toInt64)), .second, .val (.long q2), .second, .val (.long (q2 &&& (((1 : Int64) <<< (ib &&& 0x3f).toInt64) ^^^ (-1 : Int64)))), .second, .val (.int (1 : Int32)), .val (.int (1 : Int32)), .val (.int (1 : Int32))] [(.int (1 : Int32))]))
    obtain ⟨fs, hr, hrun, hended, hW, hsame⟩ := X8.leave (v := some (.int (nar .boolean (1 : Int32)))) (fun h => by rw [Bd.returns] at h; cases h)
    refine ⟨_, retN X8 hx (t := .boolean) Bd.returns (by simp) (hb hby at_220) hr, fin _ _ _ hrun hended ?_ ⟨⟨_, rfl⟩, hW, hsame.mono (by decide) (by decide)⟩⟩
    show Q0 Z q1 q2 q3 p4 p5 p6 h0 n0 _ T8.heap _
    exact ⟨rfl, N8⟩
  subst hs
  show own_Go p e below K (T8.setTop (mkF m 72 #[.val (.long q1), .second, .val (.long q2), .second, .val (.long q3), .second, .val (.int p4), .val (.int p5), .val (.int p6), .val (.int (2 : Int32)), .val (.int ia), .val (.int ((2 : Int32) - ia)), .val (.int ib), .val (.int ic), .val (.ref b1), .unset, .unset, .unset, .unset, .unset, .unset, .unset, .unset, .unset] []))
  have VV : Arv Z T8.heap b1 k1 .long (3 : Int32) [(.long q1), (.long q2), (.long (q3 &&& (((1 : Int64) <<< (ib &&& 0x3f).toInt64) ^^^ (-1 : Int64))))] (.long (0 : Int64)) := by
    have q := p8_0
    rw [Ix, Ib] at q
    exact q
  refine own_st (fun t k => XS.lconst X8.here hx rfl (hb hby at_72) k) ?_
  show own_Go p e below K (T8.setTop (mkF m 73 #[.val (.long q1), .second, .val (.long q2), .second, .val (.long q3), .second, .val (.int p4), .val (.int p5), .val (.int p6), .val (.int (2 : Int32)), .val (.int ia), .val (.int ((2 : Int32) - ia)), .val (.int ib), .val (.int ic), .val (.ref b1), .unset, .unset, .unset, .unset, .unset, .unset, .unset, .unset, .unset] [(.long (1 : Int64))]))
  refine own_st (fun t k => XS.iload X8.here hx rfl (hb hby at_73) rfl k) ?_
  show own_Go p e below K (T8.setTop (mkF m 75 #[.val (.long q1), .second, .val (.long q2), .second, .val (.long q3), .second, .val (.int p4), .val (.int p5), .val (.int p6), .val (.int (2 : Int32)), .val (.int ia), .val (.int ((2 : Int32) - ia)), .val (.int ib), .val (.int ic), .val (.ref b1), .unset, .unset, .unset, .unset, .unset, .unset, .unset, .unset, .unset] [(.int ib), (.long (1 : Int64))]))
  refine own_st (fun t k => XS.lshl X8.here hx rfl (hb hby at_75) rfl k) ?_
  show own_Go p e below K (T8.setTop (mkF m 76 #[.val (.long q1), .second, .val (.long q2), .second, .val (.long q3), .second, .val (.int p4), .val (.int p5), .val (.int p6), .val (.int (2 : Int32)), .val (.int ia), .val (.int ((2 : Int32) - ia)), .val (.int ib), .val (.int ic), .val (.ref b1), .unset, .unset, .unset, .unset, .unset, .unset, .unset, .unset, .unset] [(.long ((1 : Int64) <<< (ib &&& 0x3f).toInt64))]))
  refine own_st (fun t k => XS.lstore X8.here hx rfl (hb hby at_76) rfl (l' := #[.val (.long q1), .second, .val (.long q2), .second, .val (.long q3), .second, .val (.int p4), .val (.int p5), .val (.int p6), .val (.int (2 : Int32)), .val (.int ia), .val (.int ((2 : Int32) - ia)), .val (.int ib), .val (.int ic), .val (.ref b1), .val (.long ((1 : Int64) <<< (ib &&& 0x3f).toInt64)), .second, .unset, .unset, .unset, .unset, .unset, .unset, .unset]) rfl k) ?_
  show own_Go p e below K (T8.setTop (mkF m 78 #[.val (.long q1), .second, .val (.long q2), .second, .val (.long q3), .second, .val (.int p4), .val (.int p5), .val (.int p6), .val (.int (2 : Int32)), .val (.int ia), .val (.int ((2 : Int32) - ia)), .val (.int ib), .val (.int ic), .val (.ref b1), .val (.long ((1 : Int64) <<< (ib &&& 0x3f).toInt64)), .second, .unset, .unset, .unset, .unset, .unset, .unset, .unset] []))
  refine own_st (fun t k => XS.iload X8.here hx rfl (hb hby at_78) rfl k) ?_
  show own_Go p e below K (T8.setTop (mkF m 80 #[.val (.long q1), .second, .val (.long q2), .second, .val (.long q3), .second, .val (.int p4), .val (.int p5), .val (.int p6), .val (.int (2 : Int32)), .val (.int ia), .val (.int ((2 : Int32) - ia)), .val (.int ib), .val (.int ic), .val (.ref b1), .val (.long ((1 : Int64) <<< (ib &&& 0x3f).toInt64)), .second, .unset, .unset, .unset, .unset, .unset, .unset, .unset] [(.int (2 : Int32))]))
  refine own_st (fun t k => XS.ifYes X8.here hx rfl (pc0 := 80) (pc' := 87) rfl (hb hby at_80) rfl ((if0 _ _).trans (feq (by decide : ¬ ((2 : Int32) = (0 : Int32)))).2) (by decide) (by decide) k) ?_
  show own_Go p e below K (T8.setTop (mkF m 87 #[.val (.long q1), .second, .val (.long q2), .second, .val (.long q3), .second, .val (.int p4), .val (.int p5), .val (.int p6), .val (.int (2 : Int32)), .val (.int ia), .val (.int ((2 : Int32) - ia)), .val (.int ib), .val (.int ic), .val (.ref b1), .val (.long ((1 : Int64) <<< (ib &&& 0x3f).toInt64)), .second, .unset, .unset, .unset, .unset, .unset, .unset, .unset] []))
  refine own_st (fun t k => XS.iload X8.here hx rfl (hb hby at_87) rfl k) ?_
  show own_Go p e below K (T8.setTop (mkF m 89 #[.val (.long q1), .second, .val (.long q2), .second, .val (.long q3), .second, .val (.int p4), .val (.int p5), .val (.int p6), .val (.int (2 : Int32)), .val (.int ia), .val (.int ((2 : Int32) - ia)), .val (.int ib), .val (.int ic), .val (.ref b1), .val (.long ((1 : Int64) <<< (ib &&& 0x3f).toInt64)), .second, .unset, .unset, .unset, .unset, .unset, .unset, .unset] [(.int (2 : Int32))]))
  refine own_st (fun t k => XS.iconst X8.here hx rfl (hb hby at_89) k) ?_
  show own_Go p e below K (T8.setTop (mkF m 90 #[.val (.long q1), .second, .val (.long q2), .second, .val (.long q3), .second, .val (.int p4), .val (.int p5), .val (.int p6), .val (.int (2 : Int32)), .val (.int ia), .val (.int ((2 : Int32) - ia)), .val (.int ib), .val (.int ic), .val (.ref b1), .val (.long ((1 : Int64) <<< (ib &&& 0x3f).toInt64)), .second, .unset, .unset, .unset, .unset, .unset, .unset, .unset] [(.int (1 : Int32)), (.int (2 : Int32))]))
  refine own_st (fun t k => XS.icmpYes X8.here hx rfl (pc0 := 90) (pc' := 97) rfl (hb hby at_90) rfl (feq (by decide : ¬ ((2 : Int32) = (1 : Int32)))).2 (by decide) (by decide) k) ?_
  show own_Go p e below K (T8.setTop (mkF m 97 #[.val (.long q1), .second, .val (.long q2), .second, .val (.long q3), .second, .val (.int p4), .val (.int p5), .val (.int p6), .val (.int (2 : Int32)), .val (.int ia), .val (.int ((2 : Int32) - ia)), .val (.int ib), .val (.int ic), .val (.ref b1), .val (.long ((1 : Int64) <<< (ib &&& 0x3f).toInt64)), .second, .unset, .unset, .unset, .unset, .unset, .unset, .unset] []))
  refine own_st (fun t k => XS.lload X8.here hx rfl (hb hby at_97) rfl k) ?_
  show own_Go p e below K (T8.setTop (mkF m 99 #[.val (.long q1), .second, .val (.long q2), .second, .val (.long q3), .second, .val (.int p4), .val (.int p5), .val (.int p6), .val (.int (2 : Int32)), .val (.int ia), .val (.int ((2 : Int32) - ia)), .val (.int ib), .val (.int ic), .val (.ref b1), .val (.long ((1 : Int64) <<< (ib &&& 0x3f).toInt64)), .second, .unset, .unset, .unset, .unset, .unset, .unset, .unset] [(.long q3)]))
  refine own_st (fun t k => XS.lstore X8.here hx rfl (hb hby at_99) rfl (l' := #[.val (.long q1), .second, .val (.long q2), .second, .val (.long q3), .second, .val (.int p4), .val (.int p5), .val (.int p6), .val (.int (2 : Int32)), .val (.int ia), .val (.int ((2 : Int32) - ia)), .val (.int ib), .val (.int ic), .val (.ref b1), .val (.long ((1 : Int64) <<< (ib &&& 0x3f).toInt64)), .second, .val (.long q3), .second, .unset, .unset, .unset, .unset, .unset]) rfl k) ?_
  show own_Go p e below K (T8.setTop (mkF m 101 #[.val (.long q1), .second, .val (.long q2), .second, .val (.long q3), .second, .val (.int p4), .val (.int p5), .val (.int p6), .val (.int (2 : Int32)), .val (.int ia), .val (.int ((2 : Int32) - ia)), .val (.int ib), .val (.int ic), .val (.ref b1), .val (.long ((1 : Int64) <<< (ib &&& 0x3f).toInt64)), .second, .val (.long q3), .second, .unset, .unset, .unset, .unset, .unset] []))
  refine own_st (fun t k => XS.aload X8.here hx rfl (hb hby at_101) rfl rfl k) ?_
  show own_Go p e below K (T8.setTop (mkF m 103 #[.val (.long q1), .second, .val (.long q2), .second, .val (.long q3), .second, .val (.int p4), .val (.int p5), .val (.int p6), .val (.int (2 : Int32)), .val (.int ia), .val (.int ((2 : Int32) - ia)), .val (.int ib), .val (.int ic), .val (.ref b1), .val (.long ((1 : Int64) <<< (ib &&& 0x3f).toInt64)), .second, .val (.long q3), .second, .unset, .unset, .unset, .unset, .unset] [(.ref b1)]))
  refine own_st (fun t k => XS.iload X8.here hx rfl (hb hby at_103) rfl k) ?_
  show own_Go p e below K (T8.setTop (mkF m 105 #[.val (.long q1), .second, .val (.long q2), .second, .val (.long q3), .second, .val (.int p4), .val (.int p5), .val (.int p6), .val (.int (2 : Int32)), .val (.int ia), .val (.int ((2 : Int32) - ia)), .val (.int ib), .val (.int ic), .val (.ref b1), .val (.long ((1 : Int64) <<< (ib &&& 0x3f).toInt64)), .second, .val (.long q3), .second, .unset, .unset, .unset, .unset, .unset] [(.int (2 : Int32)), (.ref b1)]))
  obtain ⟨cl15, Ar15, qa15, Sa15, Ma15, Ha15, Ga15⟩ := id VV
  have hin15 : ¬ ((2 : Int32) < 0 ∨ cl15.slots.size ≤ ((2 : Int32)).toNatClampNeg) := inb_of Sa15 ⟨by decide, by decide⟩
  refine own_st (X8.laload hx (j := (2 : Int32)) (v := (.long (q3 &&& (((1 : Int64) <<< (ib &&& 0x3f).toInt64) ^^^ (-1 : Int64))))) (own_hat rfl Ar15.1) (State.isArrayOf_alike hZ.alike Ar15.2.1) Ar15.2.2 hin15 (Has.at Ha15 hin15 rfl) (g := (mkF m 105 #[.val (.long q1), .second, .val (.long q2), .second, .val (.long q3), .second, .val (.int p4), .val (.int p5), .val (.int p6), .val (.int (2 : Int32)), .val (.int ia), .val (.int ((2 : Int32) - ia)), .val (.int ib), .val (.int ic), .val (.ref b1), .val (.long ((1 : Int64) <<< (ib &&& 0x3f).toInt64)), .second, .val (.long q3), .second, .unset, .unset, .unset, .unset, .unset] [(.int (2 : Int32)), (.ref b1)])) rfl rfl (hb hby at_105)) ?_
  show own_Go p e below K (T8.setTop (mkF m 106 #[.val (.long q1), .second, .val (.long q2), .second, .val (.long q3), .second, .val (.int p4), .val (.int p5), .val (.int p6), .val (.int (2 : Int32)), .val (.int ia), .val (.int ((2 : Int32) - ia)), .val (.int ib), .val (.int ic), .val (.ref b1), .val (.long ((1 : Int64) <<< (ib &&& 0x3f).toInt64)), .second, .val (.long q3), .second, .unset, .unset, .unset, .unset, .unset] [(.long (q3 &&& (((1 : Int64) <<< (ib &&& 0x3f).toInt64) ^^^ (-1 : Int64))))]))
  refine own_st (fun t k => XS.lstore X8.here hx rfl (hb hby at_106) rfl (l' := #[.val (.long q1), .second, .val (.long q2), .second, .val (.long q3), .second, .val (.int p4), .val (.int p5), .val (.int p6), .val (.int (2 : Int32)), .val (.int ia), .val (.int ((2 : Int32) - ia)), .val (.int ib), .val (.int ic), .val (.ref b1), .val (.long ((1 : Int64) <<< (ib &&& 0x3f).toInt64)), .second, .val (.long q3), .second, .val (.long (q3 &&& (((1 : Int64) <<< (ib &&& 0x3f).toInt64) ^^^ (-1 : Int64)))), .second, .unset, .unset, .unset]) rfl k) ?_
  show own_Go p e below K (T8.setTop (mkF m 108 #[.val (.long q1), .second, .val (.long q2), .second, .val (.long q3), .second, .val (.int p4), .val (.int p5), .val (.int p6), .val (.int (2 : Int32)), .val (.int ia), .val (.int ((2 : Int32) - ia)), .val (.int ib), .val (.int ic), .val (.ref b1), .val (.long ((1 : Int64) <<< (ib &&& 0x3f).toInt64)), .second, .val (.long q3), .second, .val (.long (q3 &&& (((1 : Int64) <<< (ib &&& 0x3f).toInt64) ^^^ (-1 : Int64)))), .second, .unset, .unset, .unset] []))
  refine own_st (fun t k => XS.lload X8.here hx rfl (hb hby at_108) rfl k) ?_
  show own_Go p e below K (T8.setTop (mkF m 110 #[.val (.long q1), .second, .val (.long q2), .second, .val (.long q3), .second, .val (.int p4), .val (.int p5), .val (.int p6), .val (.int (2 : Int32)), .val (.int ia), .val (.int ((2 : Int32) - ia)), .val (.int ib), .val (.int ic), .val (.ref b1), .val (.long ((1 : Int64) <<< (ib &&& 0x3f).toInt64)), .second, .val (.long q3), .second, .val (.long (q3 &&& (((1 : Int64) <<< (ib &&& 0x3f).toInt64) ^^^ (-1 : Int64)))), .second, .unset, .unset, .unset] [(.long (q3 &&& (((1 : Int64) <<< (ib &&& 0x3f).toInt64) ^^^ (-1 : Int64))))]))
  refine own_st (fun t k => XS.iload X8.here hx rfl (hb hby at_110) rfl k) ?_
  show own_Go p e below K (T8.setTop (mkF m 112 #[.val (.long q1), .second, .val (.long q2), .second, .val (.long q3), .second, .val (.int p4), .val (.int p5), .val (.int p6), .val (.int (2 : Int32)), .val (.int ia), .val (.int ((2 : Int32) - ia)), .val (.int ib), .val (.int ic), .val (.ref b1), .val (.long ((1 : Int64) <<< (ib &&& 0x3f).toInt64)), .second, .val (.long q3), .second, .val (.long (q3 &&& (((1 : Int64) <<< (ib &&& 0x3f).toInt64) ^^^ (-1 : Int64)))), .second, .unset, .unset, .unset] [(.int ib), (.long (q3 &&& (((1 : Int64) <<< (ib &&& 0x3f).toInt64) ^^^ (-1 : Int64))))]))
  refine own_st (fun t k => XS.lushr X8.here hx rfl (hb hby at_112) rfl k) ?_
  show own_Go p e below K (T8.setTop (mkF m 113 #[.val (.long q1), .second, .val (.long q2), .second, .val (.long q3), .second, .val (.int p4), .val (.int p5), .val (.int p6), .val (.int (2 : Int32)), .val (.int ia), .val (.int ((2 : Int32) - ia)), .val (.int ib), .val (.int ic), .val (.ref b1), .val (.long ((1 : Int64) <<< (ib &&& 0x3f).toInt64)), .second, .val (.long q3), .second, .val (.long (q3 &&& (((1 : Int64) <<< (ib &&& 0x3f).toInt64) ^^^ (-1 : Int64)))), .second, .unset, .unset, .unset] [(.long (((q3 &&& (((1 : Int64) <<< (ib &&& 0x3f).toInt64) ^^^ (-1 : Int64))).toUInt64 >>> (ib &&& 0x3f).toInt64.toUInt64).toInt64))]))
  refine own_st (fun t k => XS.lconst X8.here hx rfl (hb hby at_113) k) ?_
  show own_Go p e below K (T8.setTop (mkF m 114 #[.val (.long q1), .second, .val (.long q2), .second, .val (.long q3), .second, .val (.int p4), .val (.int p5), .val (.int p6), .val (.int (2 : Int32)), .val (.int ia), .val (.int ((2 : Int32) - ia)), .val (.int ib), .val (.int ic), .val (.ref b1), .val (.long ((1 : Int64) <<< (ib &&& 0x3f).toInt64)), .second, .val (.long q3), .second, .val (.long (q3 &&& (((1 : Int64) <<< (ib &&& 0x3f).toInt64) ^^^ (-1 : Int64)))), .second, .unset, .unset, .unset] [(.long (1 : Int64)), (.long (((q3 &&& (((1 : Int64) <<< (ib &&& 0x3f).toInt64) ^^^ (-1 : Int64))).toUInt64 >>> (ib &&& 0x3f).toInt64.toUInt64).toInt64))]))
  refine own_st (fun t k => XS.land X8.here hx rfl (hb hby at_114) rfl k) ?_
  show own_Go p e below K (T8.setTop (mkF m 115 #[.val (.long q1), .second, .val (.long q2), .second, .val (.long q3), .second, .val (.int p4), .val (.int p5), .val (.int p6), .val (.int (2 : Int32)), .val (.int ia), .val (.int ((2 : Int32) - ia)), .val (.int ib), .val (.int ic), .val (.ref b1), .val (.long ((1 : Int64) <<< (ib &&& 0x3f).toInt64)), .second, .val (.long q3), .second, .val (.long (q3 &&& (((1 : Int64) <<< (ib &&& 0x3f).toInt64) ^^^ (-1 : Int64)))), .second, .unset, .unset, .unset] [(.long ((((q3 &&& (((1 : Int64) <<< (ib &&& 0x3f).toInt64) ^^^ (-1 : Int64))).toUInt64 >>> (ib &&& 0x3f).toInt64.toUInt64).toInt64) &&& (1 : Int64)))]))
  refine own_st (fun t k => XS.lconst X8.here hx rfl (hb hby at_115) k) ?_
  show own_Go p e below K (T8.setTop (mkF m 116 #[.val (.long q1), .second, .val (.long q2), .second, .val (.long q3), .second, .val (.int p4), .val (.int p5), .val (.int p6), .val (.int (2 : Int32)), .val (.int ia), .val (.int ((2 : Int32) - ia)), .val (.int ib), .val (.int ic), .val (.ref b1), .val (.long ((1 : Int64) <<< (ib &&& 0x3f).toInt64)), .second, .val (.long q3), .second, .val (.long (q3 &&& (((1 : Int64) <<< (ib &&& 0x3f).toInt64) ^^^ (-1 : Int64)))), .second, .unset, .unset, .unset] [(.long (0 : Int64)), (.long ((((q3 &&& (((1 : Int64) <<< (ib &&& 0x3f).toInt64) ^^^ (-1 : Int64))).toUInt64 >>> (ib &&& 0x3f).toInt64.toUInt64).toInt64) &&& (1 : Int64)))]))
  refine own_st (fun t k => XS.lcmp X8.here hx rfl (hb hby at_116) rfl k) ?_
  show own_Go p e below K (T8.setTop (mkF m 117 #[.val (.long q1), .second, .val (.long q2), .second, .val (.long q3), .second, .val (.int p4), .val (.int p5), .val (.int p6), .val (.int (2 : Int32)), .val (.int ia), .val (.int ((2 : Int32) - ia)), .val (.int ib), .val (.int ic), .val (.ref b1), .val (.long ((1 : Int64) <<< (ib &&& 0x3f).toInt64)), .second, .val (.long q3), .second, .val (.long (q3 &&& (((1 : Int64) <<< (ib &&& 0x3f).toInt64) ^^^ (-1 : Int64)))), .second, .unset, .unset, .unset] [(.int (lcmpW ((((q3 &&& (((1 : Int64) <<< (ib &&& 0x3f).toInt64) ^^^ (-1 : Int64))).toUInt64 >>> (ib &&& 0x3f).toInt64.toUInt64).toInt64) &&& (1 : Int64)) (0 : Int64)))]))
  refine own_st (fun t k => XS.ifNo X8.here hx rfl (hb hby at_117) rfl ((if0 _ _).trans (teq ((lw_eq _ _).mpr (own_clr _ _ : ((((q3 &&& (((1 : Int64) <<< (ib &&& 0x3f).toInt64) ^^^ (-1 : Int64))).toUInt64 >>> (ib &&& 0x3f).toInt64.toUInt64).toInt64) &&& (1 : Int64)) = (0 : Int64)))).2) k) ?_
  show own_Go p e below K (T8.setTop (mkF m 120 #[.val (.long q1), .second, .val (.long q2), .second, .val (.long q3), .second, .val (.int p4), .val (.int p5), .val (.int p6), .val (.int (2 : Int32)), .val (.int ia), .val (.int ((2 : Int32) - ia)), .val (.int ib), .val (.int ic), .val (.ref b1), .val (.long ((1 : Int64) <<< (ib &&& 0x3f).toInt64)), .second, .val (.long q3), .second, .val (.long (q3 &&& (((1 : Int64) <<< (ib &&& 0x3f).toInt64) ^^^ (-1 : Int64)))), .second, .unset, .unset, .unset] []))
  refine own_st (fun t k => XS.iconst X8.here hx rfl (hb hby at_120) k) ?_
  show own_Go p e below K (T8.setTop (mkF m 121 #[.val (.long q1), .second, .val (.long q2), .second, .val (.long q3), .second, .val (.int p4), .val (.int p5), .val (.int p6), .val (.int (2 : Int32)), .val (.int ia), .val (.int ((2 : Int32) - ia)), .val (.int ib), .val (.int ic), .val (.ref b1), .val (.long ((1 : Int64) <<< (ib &&& 0x3f).toInt64)), .second, .val (.long q3), .second, .val (.long (q3 &&& (((1 : Int64) <<< (ib &&& 0x3f).toInt64) ^^^ (-1 : Int64)))), .second, .unset, .unset, .unset] [(.int (1 : Int32))]))
  refine own_st (fun t k => XS.goto X8.here hx rfl (pc0 := 121) (pc' := 125) rfl (hb hby at_121) (by decide) (by decide) k) ?_
  show own_Go p e below K (T8.setTop (mkF m 125 #[.val (.long q1), .second, .val (.long q2), .second, .val (.long q3), .second, .val (.int p4), .val (.int p5), .val (.int p6), .val (.int (2 : Int32)), .val (.int ia), .val (.int ((2 : Int32) - ia)), .val (.int ib), .val (.int ic), .val (.ref b1), .val (.long ((1 : Int64) <<< (ib &&& 0x3f).toInt64)), .second, .val (.long q3), .second, .val (.long (q3 &&& (((1 : Int64) <<< (ib &&& 0x3f).toInt64) ^^^ (-1 : Int64)))), .second, .unset, .unset, .unset] [(.int (1 : Int32))]))
  refine own_st (fun t k => XS.istore X8.here hx rfl (hb hby at_125) rfl (l' := #[.val (.long q1), .second, .val (.long q2), .second, .val (.long q3), .second, .val (.int p4), .val (.int p5), .val (.int p6), .val (.int (2 : Int32)), .val (.int ia), .val (.int ((2 : Int32) - ia)), .val (.int ib), .val (.int ic), .val (.ref b1), .val (.long ((1 : Int64) <<< (ib &&& 0x3f).toInt64)), .second, .val (.long q3), .second, .val (.long (q3 &&& (((1 : Int64) <<< (ib &&& 0x3f).toInt64) ^^^ (-1 : Int64)))), .second, .val (.int (1 : Int32)), .unset, .unset]) rfl k) ?_
  show own_Go p e below K (T8.setTop (mkF m 127 #[.val (.long q1), .second, .val (.long q2), .second, .val (.long q3), .second, .val (.int p4), .val (.int p5), .val (.int p6), .val (.int (2 : Int32)), .val (.int ia), .val (.int ((2 : Int32) - ia)), .val (.int ib), .val (.int ic), .val (.ref b1), .val (.long ((1 : Int64) <<< (ib &&& 0x3f).toInt64)), .second, .val (.long q3), .second, .val (.long (q3 &&& (((1 : Int64) <<< (ib &&& 0x3f).toInt64) ^^^ (-1 : Int64)))), .second, .val (.int (1 : Int32)), .unset, .unset] []))
  refine own_st (fun t k => XS.lload X8.here hx rfl (hb hby at_127) rfl k) ?_
  show own_Go p e below K (T8.setTop (mkF m 129 #[.val (.long q1), .second, .val (.long q2), .second, .val (.long q3), .second, .val (.int p4), .val (.int p5), .val (.int p6), .val (.int (2 : Int32)), .val (.int ia), .val (.int ((2 : Int32) - ia)), .val (.int ib), .val (.int ic), .val (.ref b1), .val (.long ((1 : Int64) <<< (ib &&& 0x3f).toInt64)), .second, .val (.long q3), .second, .val (.long (q3 &&& (((1 : Int64) <<< (ib &&& 0x3f).toInt64) ^^^ (-1 : Int64)))), .second, .val (.int (1 : Int32)), .unset, .unset] [(.long (q3 &&& (((1 : Int64) <<< (ib &&& 0x3f).toInt64) ^^^ (-1 : Int64))))]))
  refine own_st (fun t k => XS.lload X8.here hx rfl (hb hby at_129) rfl k) ?_
  show own_Go p e below K (T8.setTop (mkF m 131 #[.val (.long q1), .second, .val (.long q2), .second, .val (.long q3), .second, .val (.int p4), .val (.int p5), .val (.int p6), .val (.int (2 : Int32)), .val (.int ia), .val (.int ((2 : Int32) - ia)), .val (.int ib), .val (.int ic), .val (.ref b1), .val (.long ((1 : Int64) <<< (ib &&& 0x3f).toInt64)), .second, .val (.long q3), .second, .val (.long (q3 &&& (((1 : Int64) <<< (ib &&& 0x3f).toInt64) ^^^ (-1 : Int64)))), .second, .val (.int (1 : Int32)), .unset, .unset] [(.long ((1 : Int64) <<< (ib &&& 0x3f).toInt64)), (.long (q3 &&& (((1 : Int64) <<< (ib &&& 0x3f).toInt64) ^^^ (-1 : Int64))))]))
  refine own_st (fun t k => XS.lor X8.here hx rfl (hb hby at_131) rfl k) ?_
  show own_Go p e below K (T8.setTop (mkF m 132 #[.val (.long q1), .second, .val (.long q2), .second, .val (.long q3), .second, .val (.int p4), .val (.int p5), .val (.int p6), .val (.int (2 : Int32)), .val (.int ia), .val (.int ((2 : Int32) - ia)), .val (.int ib), .val (.int ic), .val (.ref b1), .val (.long ((1 : Int64) <<< (ib &&& 0x3f).toInt64)), .second, .val (.long q3), .second, .val (.long (q3 &&& (((1 : Int64) <<< (ib &&& 0x3f).toInt64) ^^^ (-1 : Int64)))), .second, .val (.int (1 : Int32)), .unset, .unset] [(.long ((q3 &&& (((1 : Int64) <<< (ib &&& 0x3f).toInt64) ^^^ (-1 : Int64))) ||| ((1 : Int64) <<< (ib &&& 0x3f).toInt64)))]))
  refine own_st (fun t k => XS.lload X8.here hx rfl (hb hby at_132) rfl k) ?_
  show own_Go p e below K (T8.setTop (mkF m 134 #[.val (.long q1), .second, .val (.long q2), .second, .val (.long q3), .second, .val (.int p4), .val (.int p5), .val (.int p6), .val (.int (2 : Int32)), .val (.int ia), .val (.int ((2 : Int32) - ia)), .val (.int ib), .val (.int ic), .val (.ref b1), .val (.long ((1 : Int64) <<< (ib &&& 0x3f).toInt64)), .second, .val (.long q3), .second, .val (.long (q3 &&& (((1 : Int64) <<< (ib &&& 0x3f).toInt64) ^^^ (-1 : Int64)))), .second, .val (.int (1 : Int32)), .unset, .unset] [(.long q3), (.long ((q3 &&& (((1 : Int64) <<< (ib &&& 0x3f).toInt64) ^^^ (-1 : Int64))) ||| ((1 : Int64) <<< (ib &&& 0x3f).toInt64)))]))
  refine own_st (fun t k => XS.lload X8.here hx rfl (hb hby at_134) rfl k) ?_
  show own_Go p e below K (T8.setTop (mkF m 136 #[.val (.long q1), .second, .val (.long q2), .second, .val (.long q3), .second, .val (.int p4), .val (.int p5), .val (.int p6), .val (.int (2 : Int32)), .val (.int ia), .val (.int ((2 : Int32) - ia)), .val (.int ib), .val (.int ic), .val (.ref b1), .val (.long ((1 : Int64) <<< (ib &&& 0x3f).toInt64)), .second, .val (.long q3), .second, .val (.long (q3 &&& (((1 : Int64) <<< (ib &&& 0x3f).toInt64) ^^^ (-1 : Int64)))), .second, .val (.int (1 : Int32)), .unset, .unset] [(.long ((1 : Int64) <<< (ib &&& 0x3f).toInt64)), (.long q3), (.long ((q3 &&& (((1 : Int64) <<< (ib &&& 0x3f).toInt64) ^^^ (-1 : Int64))) ||| ((1 : Int64) <<< (ib &&& 0x3f).toInt64)))]))
  refine own_st (fun t k => XS.lor X8.here hx rfl (hb hby at_136) rfl k) ?_
  show own_Go p e below K (T8.setTop (mkF m 137 #[.val (.long q1), .second, .val (.long q2), .second, .val (.long q3), .second, .val (.int p4), .val (.int p5), .val (.int p6), .val (.int (2 : Int32)), .val (.int ia), .val (.int ((2 : Int32) - ia)), .val (.int ib), .val (.int ic), .val (.ref b1), .val (.long ((1 : Int64) <<< (ib &&& 0x3f).toInt64)), .second, .val (.long q3), .second, .val (.long (q3 &&& (((1 : Int64) <<< (ib &&& 0x3f).toInt64) ^^^ (-1 : Int64)))), .second, .val (.int (1 : Int32)), .unset, .unset] [(.long (q3 ||| ((1 : Int64) <<< (ib &&& 0x3f).toInt64))), (.long ((q3 &&& (((1 : Int64) <<< (ib &&& 0x3f).toInt64) ^^^ (-1 : Int64))) ||| ((1 : Int64) <<< (ib &&& 0x3f).toInt64)))]))
  refine own_st (fun t k => XS.lcmp X8.here hx rfl (hb hby at_137) rfl k) ?_
  show own_Go p e below K (T8.setTop (mkF m 138 #[.val (.long q1), .second, .val (.long q2), .second, .val (.long q3), .second, .val (.int p4), .val (.int p5), .val (.int p6), .val (.int (2 : Int32)), .val (.int ia), .val (.int ((2 : Int32) - ia)), .val (.int ib), .val (.int ic), .val (.ref b1), .val (.long ((1 : Int64) <<< (ib &&& 0x3f).toInt64)), .second, .val (.long q3), .second, .val (.long (q3 &&& (((1 : Int64) <<< (ib &&& 0x3f).toInt64) ^^^ (-1 : Int64)))), .second, .val (.int (1 : Int32)), .unset, .unset] [(.int (lcmpW ((q3 &&& (((1 : Int64) <<< (ib &&& 0x3f).toInt64) ^^^ (-1 : Int64))) ||| ((1 : Int64) <<< (ib &&& 0x3f).toInt64)) (q3 ||| ((1 : Int64) <<< (ib &&& 0x3f).toInt64))))]))
  refine own_st (fun t k => XS.ifNo X8.here hx rfl (hb hby at_138) rfl ((if0 _ _).trans (teq ((lw_eq _ _).mpr (own_or _ _ : ((q3 &&& (((1 : Int64) <<< (ib &&& 0x3f).toInt64) ^^^ (-1 : Int64))) ||| ((1 : Int64) <<< (ib &&& 0x3f).toInt64)) = (q3 ||| ((1 : Int64) <<< (ib &&& 0x3f).toInt64))))).2) k) ?_
  show own_Go p e below K (T8.setTop (mkF m 141 #[.val (.long q1), .second, .val (.long q2), .second, .val (.long q3), .second, .val (.int p4), .val (.int p5), .val (.int p6), .val (.int (2 : Int32)), .val (.int ia), .val (.int ((2 : Int32) - ia)), .val (.int ib), .val (.int ic), .val (.ref b1), .val (.long ((1 : Int64) <<< (ib &&& 0x3f).toInt64)), .second, .val (.long q3), .second, .val (.long (q3 &&& (((1 : Int64) <<< (ib &&& 0x3f).toInt64) ^^^ (-1 : Int64)))), .second, .val (.int (1 : Int32)), .unset, .unset] []))
  refine own_st (fun t k => XS.iconst X8.here hx rfl (hb hby at_141) k) ?_
  show own_Go p e below K (T8.setTop (mkF m 142 #[.val (.long q1), .second, .val (.long q2), .second, .val (.long q3), .second, .val (.int p4), .val (.int p5), .val (.int p6), .val (.int (2 : Int32)), .val (.int ia), .val (.int ((2 : Int32) - ia)), .val (.int ib), .val (.int ic), .val (.ref b1), .val (.long ((1 : Int64) <<< (ib &&& 0x3f).toInt64)), .second, .val (.long q3), .second, .val (.long (q3 &&& (((1 : Int64) <<< (ib &&& 0x3f).toInt64) ^^^ (-1 : Int64)))), .second, .val (.int (1 : Int32)), .unset, .unset] [(.int (1 : Int32))]))
  refine own_st (fun t k => XS.goto X8.here hx rfl (pc0 := 142) (pc' := 146) rfl (hb hby at_142) (by decide) (by decide) k) ?_
  show own_Go p e below K (T8.setTop (mkF m 146 #[.val (.long q1), .second, .val (.long q2), .second, .val (.long q3), .second, .val (.int p4), .val (.int p5), .val (.int p6), .val (.int (2 : Int32)), .val (.int ia), .val (.int ((2 : Int32) - ia)), .val (.int ib), .val (.int ic), .val (.ref b1), .val (.long ((1 : Int64) <<< (ib &&& 0x3f).toInt64)), .second, .val (.long q3), .second, .val (.long (q3 &&& (((1 : Int64) <<< (ib &&& 0x3f).toInt64) ^^^ (-1 : Int64)))), .second, .val (.int (1 : Int32)), .unset, .unset] [(.int (1 : Int32))]))
  refine own_st (fun t k => XS.istore X8.here hx rfl (hb hby at_146) rfl (l' := #[.val (.long q1), .second, .val (.long q2), .second, .val (.long q3), .second, .val (.int p4), .val (.int p5), .val (.int p6), .val (.int (2 : Int32)), .val (.int ia), .val (.int ((2 : Int32) - ia)), .val (.int ib), .val (.int ic), .val (.ref b1), .val (.long ((1 : Int64) <<< (ib &&& 0x3f).toInt64)), .second, .val (.long q3), .second, .val (.long (q3 &&& (((1 : Int64) <<< (ib &&& 0x3f).toInt64) ^^^ (-1 : Int64)))), .second, .val (.int (1 : Int32)), .val (.int (1 : Int32)), .unset]) rfl k) ?_
  show own_Go p e below K (T8.setTop (mkF m 148 #[.val (.long q1), .second, .val (.long q2), .second, .val (.long q3), .second, .val (.int p4), .val (.int p5), .val (.int p6), .val (.int (2 : Int32)), .val (.int ia), .val (.int ((2 : Int32) - ia)), .val (.int ib), .val (.int ic), .val (.ref b1), .val (.long ((1 : Int64) <<< (ib &&& 0x3f).toInt64)), .second, .val (.long q3), .second, .val (.long (q3 &&& (((1 : Int64) <<< (ib &&& 0x3f).toInt64) ^^^ (-1 : Int64)))), .second, .val (.int (1 : Int32)), .val (.int (1 : Int32)), .unset] []))
  refine own_st (fun t k => XS.iload X8.here hx rfl (hb hby at_148) rfl k) ?_
  show own_Go p e below K (T8.setTop (mkF m 150 #[.val (.long q1), .second, .val (.long q2), .second, .val (.long q3), .second, .val (.int p4), .val (.int p5), .val (.int p6), .val (.int (2 : Int32)), .val (.int ia), .val (.int ((2 : Int32) - ia)), .val (.int ib), .val (.int ic), .val (.ref b1), .val (.long ((1 : Int64) <<< (ib &&& 0x3f).toInt64)), .second, .val (.long q3), .second, .val (.long (q3 &&& (((1 : Int64) <<< (ib &&& 0x3f).toInt64) ^^^ (-1 : Int64)))), .second, .val (.int (1 : Int32)), .val (.int (1 : Int32)), .unset] [(.int (2 : Int32))]))
  refine own_st (fun t k => XS.ifNo X8.here hx rfl (hb hby at_150) rfl ((if0 _ _).trans (feq (by decide : ¬ ((2 : Int32) = (0 : Int32)))).1) k) ?_
  show own_Go p e below K (T8.setTop (mkF m 153 #[.val (.long q1), .second, .val (.long q2), .second, .val (.long q3), .second, .val (.int p4), .val (.int p5), .val (.int p6), .val (.int (2 : Int32)), .val (.int ia), .val (.int ((2 : Int32) - ia)), .val (.int ib), .val (.int ic), .val (.ref b1), .val (.long ((1 : Int64) <<< (ib &&& 0x3f).toInt64)), .second, .val (.long q3), .second, .val (.long (q3 &&& (((1 : Int64) <<< (ib &&& 0x3f).toInt64) ^^^ (-1 : Int64)))), .second, .val (.int (1 : Int32)), .val (.int (1 : Int32)), .unset] []))
  refine own_st (fun t k => XS.aload X8.here hx rfl (hb hby at_153) rfl rfl k) ?_
  show own_Go p e below K (T8.setTop (mkF m 155 #[.val (.long q1), .second, .val (.long q2), .second, .val (.long q3), .second, .val (.int p4), .val (.int p5), .val (.int p6), .val (.int (2 : Int32)), .val (.int ia), .val (.int ((2 : Int32) - ia)), .val (.int ib), .val (.int ic), .val (.ref b1), .val (.long ((1 : Int64) <<< (ib &&& 0x3f).toInt64)), .second, .val (.long q3), .second, .val (.long (q3 &&& (((1 : Int64) <<< (ib &&& 0x3f).toInt64) ^^^ (-1 : Int64)))), .second, .val (.int (1 : Int32)), .val (.int (1 : Int32)), .unset] [(.ref b1)]))
  refine own_st (fun t k => XS.iconst X8.here hx rfl (hb hby at_155) k) ?_
  show own_Go p e below K (T8.setTop (mkF m 156 #[.val (.long q1), .second, .val (.long q2), .second, .val (.long q3), .second, .val (.int p4), .val (.int p5), .val (.int p6), .val (.int (2 : Int32)), .val (.int ia), .val (.int ((2 : Int32) - ia)), .val (.int ib), .val (.int ic), .val (.ref b1), .val (.long ((1 : Int64) <<< (ib &&& 0x3f).toInt64)), .second, .val (.long q3), .second, .val (.long (q3 &&& (((1 : Int64) <<< (ib &&& 0x3f).toInt64) ^^^ (-1 : Int64)))), .second, .val (.int (1 : Int32)), .val (.int (1 : Int32)), .unset] [(.int (0 : Int32)), (.ref b1)]))
  obtain ⟨cl16, Ar16, qa16, Sa16, Ma16, Ha16, Ga16⟩ := id VV
  have hin16 : ¬ ((0 : Int32) < 0 ∨ cl16.slots.size ≤ ((0 : Int32)).toNatClampNeg) := inb_of Sa16 ⟨by decide, by decide⟩
  refine own_st (X8.laload hx (j := (0 : Int32)) (v := (.long q1)) (own_hat rfl Ar16.1) (State.isArrayOf_alike hZ.alike Ar16.2.1) Ar16.2.2 hin16 (Has.at Ha16 hin16 rfl) (g := (mkF m 156 #[.val (.long q1), .second, .val (.long q2), .second, .val (.long q3), .second, .val (.int p4), .val (.int p5), .val (.int p6), .val (.int (2 : Int32)), .val (.int ia), .val (.int ((2 : Int32) - ia)), .val (.int ib), .val (.int ic), .val (.ref b1), .val (.long ((1 : Int64) <<< (ib &&& 0x3f).toInt64)), .second, .val (.long q3), .second, .val (.long (q3 &&& (((1 : Int64) <<< (ib &&& 0x3f).toInt64) ^^^ (-1 : Int64)))), .second, .val (.int (1 : Int32)), .val (.int (1 : Int32)), .unset] [(.int (0 : Int32)), (.ref b1)])) rfl rfl (hb hby at_156)) ?_
  show own_Go p e below K (T8.setTop (mkF m 157 #[.val (.long q1), .second, .val (.long q2), .second, .val (.long q3), .second, .val (.int p4), .val (.int p5), .val (.int p6), .val (.int (2 : Int32)), .val (.int ia), .val (.int ((2 : Int32) - ia)), .val (.int ib), .val (.int ic), .val (.ref b1), .val (.long ((1 : Int64) <<< (ib &&& 0x3f).toInt64)), .second, .val (.long q3), .second, .val (.long (q3 &&& (((1 : Int64) <<< (ib &&& 0x3f).toInt64) ^^^ (-1 : Int64)))), .second, .val (.int (1 : Int32)), .val (.int (1 : Int32)), .unset] [(.long q1)]))
  refine own_st (fun t k => XS.lloadN X8.here hx rfl (hb hby at_157) rfl k) ?_
  show own_Go p e below K (T8.setTop (mkF m 158 #[.val (.long q1), .second, .val (.long q2), .second, .val (.long q3), .second, .val (.int p4), .val (.int p5), .val (.int p6), .val (.int (2 : Int32)), .val (.int ia), .val (.int ((2 : Int32) - ia)), .val (.int ib), .val (.int ic), .val (.ref b1), .val (.long ((1 : Int64) <<< (ib &&& 0x3f).toInt64)), .second, .val (.long q3), .second, .val (.long (q3 &&& (((1 : Int64) <<< (ib &&& 0x3f).toInt64) ^^^ (-1 : Int64)))), .second, .val (.int (1 : Int32)), .val (.int (1 : Int32)), .unset] [(.long q1), (.long q1)]))
  refine own_st (fun t k => XS.lcmp X8.here hx rfl (hb hby at_158) rfl k) ?_
  show own_Go p e below K (T8.setTop (mkF m 159 #[.val (.long q1), .second, .val (.long q2), .second, .val (.long q3), .second, .val (.int p4), .val (.int p5), .val (.int p6), .val (.int (2 : Int32)), .val (.int ia), .val (.int ((2 : Int32) - ia)), .val (.int ib), .val (.int ic), .val (.ref b1), .val (.long ((1 : Int64) <<< (ib &&& 0x3f).toInt64)), .second, .val (.long q3), .second, .val (.long (q3 &&& (((1 : Int64) <<< (ib &&& 0x3f).toInt64) ^^^ (-1 : Int64)))), .second, .val (.int (1 : Int32)), .val (.int (1 : Int32)), .unset] [(.int (lcmpW q1 q1))]))
  refine own_st (fun t k => XS.ifNo X8.here hx rfl (hb hby at_159) rfl ((if0 _ _).trans (teq ((lw_eq _ _).mpr (rfl : q1 = q1))).2) k) ?_
  show own_Go p e below K (T8.setTop (mkF m 162 #[.val (.long q1), .second, .val (.long q2), .second, .val (.long q3), .second, .val (.int p4), .val (.int p5), .val (.int p6), .val (.int (2 : Int32)), .val (.int ia), .val (.int ((2 : Int32) - ia)), .val (.int ib), .val (.int ic), .val (.ref b1), .val (.long ((1 : Int64) <<< (ib &&& 0x3f).toInt64)), .second, .val (.long q3), .second, .val (.long (q3 &&& (((1 : Int64) <<< (ib &&& 0x3f).toInt64) ^^^ (-1 : Int64)))), .second, .val (.int (1 : Int32)), .val (.int (1 : Int32)), .unset] []))
  refine own_st (fun t k => XS.iload X8.here hx rfl (hb hby at_162) rfl k) ?_
  show own_Go p e below K (T8.setTop (mkF m 164 #[.val (.long q1), .second, .val (.long q2), .second, .val (.long q3), .second, .val (.int p4), .val (.int p5), .val (.int p6), .val (.int (2 : Int32)), .val (.int ia), .val (.int ((2 : Int32) - ia)), .val (.int ib), .val (.int ic), .val (.ref b1), .val (.long ((1 : Int64) <<< (ib &&& 0x3f).toInt64)), .second, .val (.long q3), .second, .val (.long (q3 &&& (((1 : Int64) <<< (ib &&& 0x3f).toInt64) ^^^ (-1 : Int64)))), .second, .val (.int (1 : Int32)), .val (.int (1 : Int32)), .unset] [(.int (2 : Int32))]))
  refine own_st (fun t k => XS.iconst X8.here hx rfl (hb hby at_164) k) ?_
  show own_Go p e below K (T8.setTop (mkF m 165 #[.val (.long q1), .second, .val (.long q2), .second, .val (.long q3), .second, .val (.int p4), .val (.int p5), .val (.int p6), .val (.int (2 : Int32)), .val (.int ia), .val (.int ((2 : Int32) - ia)), .val (.int ib), .val (.int ic), .val (.ref b1), .val (.long ((1 : Int64) <<< (ib &&& 0x3f).toInt64)), .second, .val (.long q3), .second, .val (.long (q3 &&& (((1 : Int64) <<< (ib &&& 0x3f).toInt64) ^^^ (-1 : Int64)))), .second, .val (.int (1 : Int32)), .val (.int (1 : Int32)), .unset] [(.int (1 : Int32)), (.int (2 : Int32))]))
  refine own_st (fun t k => XS.icmpNo X8.here hx rfl (hb hby at_165) rfl (feq (by decide : ¬ ((2 : Int32) = (1 : Int32)))).1 k) ?_
  show own_Go p e below K (T8.setTop (mkF m 168 #[.val (.long q1), .second, .val (.long q2), .second, .val (.long q3), .second, .val (.int p4), .val (.int p5), .val (.int p6), .val (.int (2 : Int32)), .val (.int ia), .val (.int ((2 : Int32) - ia)), .val (.int ib), .val (.int ic), .val (.ref b1), .val (.long ((1 : Int64) <<< (ib &&& 0x3f).toInt64)), .second, .val (.long q3), .second, .val (.long (q3 &&& (((1 : Int64) <<< (ib &&& 0x3f).toInt64) ^^^ (-1 : Int64)))), .second, .val (.int (1 : Int32)), .val (.int (1 : Int32)), .unset] []))
  refine own_st (fun t k => XS.aload X8.here hx rfl (hb hby at_168) rfl rfl k) ?_
  show own_Go p e below K (T8.setTop (mkF m 170 #[.val (.long q1), .second, .val (.long q2), .second, .val (.long q3), .second, .val (.int p4), .val (.int p5), .val (.int p6), .val (.int (2 : Int32)), .val (.int ia), .val (.int ((2 : Int32) - ia)), .val (.int ib), .val (.int ic), .val (.ref b1), .val (.long ((1 : Int64) <<< (ib &&& 0x3f).toInt64)), .second, .val (.long q3), .second, .val (.long (q3 &&& (((1 : Int64) <<< (ib &&& 0x3f).toInt64) ^^^ (-1 : Int64)))), .second, .val (.int (1 : Int32)), .val (.int (1 : Int32)), .unset] [(.ref b1)]))
  refine own_st (fun t k => XS.iconst X8.here hx rfl (hb hby at_170) k) ?_
  show own_Go p e below K (T8.setTop (mkF m 171 #[.val (.long q1), .second, .val (.long q2), .second, .val (.long q3), .second, .val (.int p4), .val (.int p5), .val (.int p6), .val (.int (2 : Int32)), .val (.int ia), .val (.int ((2 : Int32) - ia)), .val (.int ib), .val (.int ic), .val (.ref b1), .val (.long ((1 : Int64) <<< (ib &&& 0x3f).toInt64)), .second, .val (.long q3), .second, .val (.long (q3 &&& (((1 : Int64) <<< (ib &&& 0x3f).toInt64) ^^^ (-1 : Int64)))), .second, .val (.int (1 : Int32)), .val (.int (1 : Int32)), .unset] [(.int (1 : Int32)), (.ref b1)]))
  obtain ⟨cl17, Ar17, qa17, Sa17, Ma17, Ha17, Ga17⟩ := id VV
  have hin17 : ¬ ((1 : Int32) < 0 ∨ cl17.slots.size ≤ ((1 : Int32)).toNatClampNeg) := inb_of Sa17 ⟨by decide, by decide⟩
  refine own_st (X8.laload hx (j := (1 : Int32)) (v := (.long q2)) (own_hat rfl Ar17.1) (State.isArrayOf_alike hZ.alike Ar17.2.1) Ar17.2.2 hin17 (Has.at Ha17 hin17 rfl) (g := (mkF m 171 #[.val (.long q1), .second, .val (.long q2), .second, .val (.long q3), .second, .val (.int p4), .val (.int p5), .val (.int p6), .val (.int (2 : Int32)), .val (.int ia), .val (.int ((2 : Int32) - ia)), .val (.int ib), .val (.int ic), .val (.ref b1), .val (.long ((1 : Int64) <<< (ib &&& 0x3f).toInt64)), .second, .val (.long q3), .second, .val (.long (q3 &&& (((1 : Int64) <<< (ib &&& 0x3f).toInt64) ^^^ (-1 : Int64)))), .second, .val (.int (1 : Int32)), .val (.int (1 : Int32)), .unset] [(.int (1 : Int32)), (.ref b1)])) rfl rfl (hb hby at_171)) ?_
  show own_Go p e below K (T8.setTop (mkF m 172 #[.val (.long q1), .second, .val (.long q2), .second, .val (.long q3), .second, .val (.int p4), .val (.int p5), .val (.int p6), .val (.int (2 : Int32)), .val (.int ia), .val (.int ((2 : Int32) - ia)), .val (.int ib), .val (.int ic), .val (.ref b1), .val (.long ((1 : Int64) <<< (ib &&& 0x3f).toInt64)), .second, .val (.long q3), .second, .val (.long (q3 &&& (((1 : Int64) <<< (ib &&& 0x3f).toInt64) ^^^ (-1 : Int64)))), .second, .val (.int (1 : Int32)), .val (.int (1 : Int32)), .unset] [(.long q2)]))
  refine own_st (fun t k => XS.lloadN X8.here hx rfl (hb hby at_172) rfl k) ?_
  show own_Go p e below K (T8.setTop (mkF m 173 #[.val (.long q1), .second, .val (.long q2), .second, .val (.long q3), .second, .val (.int p4), .val (.int p5), .val (.int p6), .val (.int (2 : Int32)), .val (.int ia), .val (.int ((2 : Int32) - ia)), .val (.int ib), .val (.int ic), .val (.ref b1), .val (.long ((1 : Int64) <<< (ib &&& 0x3f).toInt64)), .second, .val (.long q3), .second, .val (.long (q3 &&& (((1 : Int64) <<< (ib &&& 0x3f).toInt64) ^^^ (-1 : Int64)))), .second, .val (.int (1 : Int32)), .val (.int (1 : Int32)), .unset] [(.long q2), (.long q2)]))
  refine own_st (fun t k => XS.lcmp X8.here hx rfl (hb hby at_173) rfl k) ?_
  show own_Go p e below K (T8.setTop (mkF m 174 #[.val (.long q1), .second, .val (.long q2), .second, .val (.long q3), .second, .val (.int p4), .val (.int p5), .val (.int p6), .val (.int (2 : Int32)), .val (.int ia), .val (.int ((2 : Int32) - ia)), .val (.int ib), .val (.int ic), .val (.ref b1), .val (.long ((1 : Int64) <<< (ib &&& 0x3f).toInt64)), .second, .val (.long q3), .second, .val (.long (q3 &&& (((1 : Int64) <<< (ib &&& 0x3f).toInt64) ^^^ (-1 : Int64)))), .second, .val (.int (1 : Int32)), .val (.int (1 : Int32)), .unset] [(.int (lcmpW q2 q2))]))
  refine own_st (fun t k => XS.ifNo X8.here hx rfl (hb hby at_174) rfl ((if0 _ _).trans (teq ((lw_eq _ _).mpr (rfl : q2 = q2))).2) k) ?_
  show own_Go p e below K (T8.setTop (mkF m 177 #[.val (.long q1), .second, .val (.long q2), .second, .val (.long q3), .second, .val (.int p4), .val (.int p5), .val (.int p6), .val (.int (2 : Int32)), .val (.int ia), .val (.int ((2 : Int32) - ia)), .val (.int ib), .val (.int ic), .val (.ref b1), .val (.long ((1 : Int64) <<< (ib &&& 0x3f).toInt64)), .second, .val (.long q3), .second, .val (.long (q3 &&& (((1 : Int64) <<< (ib &&& 0x3f).toInt64) ^^^ (-1 : Int64)))), .second, .val (.int (1 : Int32)), .val (.int (1 : Int32)), .unset] []))
  refine own_st (fun t k => XS.iload X8.here hx rfl (hb hby at_177) rfl k) ?_
  show own_Go p e below K (T8.setTop (mkF m 179 #[.val (.long q1), .second, .val (.long q2), .second, .val (.long q3), .second, .val (.int p4), .val (.int p5), .val (.int p6), .val (.int (2 : Int32)), .val (.int ia), .val (.int ((2 : Int32) - ia)), .val (.int ib), .val (.int ic), .val (.ref b1), .val (.long ((1 : Int64) <<< (ib &&& 0x3f).toInt64)), .second, .val (.long q3), .second, .val (.long (q3 &&& (((1 : Int64) <<< (ib &&& 0x3f).toInt64) ^^^ (-1 : Int64)))), .second, .val (.int (1 : Int32)), .val (.int (1 : Int32)), .unset] [(.int (2 : Int32))]))
  refine own_st (fun t k => XS.iconst X8.here hx rfl (hb hby at_179) k) ?_
  show own_Go p e below K (T8.setTop (mkF m 180 #[.val (.long q1), .second, .val (.long q2), .second, .val (.long q3), .second, .val (.int p4), .val (.int p5), .val (.int p6), .val (.int (2 : Int32)), .val (.int ia), .val (.int ((2 : Int32) - ia)), .val (.int ib), .val (.int ic), .val (.ref b1), .val (.long ((1 : Int64) <<< (ib &&& 0x3f).toInt64)), .second, .val (.long q3), .second, .val (.long (q3 &&& (((1 : Int64) <<< (ib &&& 0x3f).toInt64) ^^^ (-1 : Int64)))), .second, .val (.int (1 : Int32)), .val (.int (1 : Int32)), .unset] [(.int (2 : Int32)), (.int (2 : Int32))]))
  refine own_st (fun t k => XS.icmpYes X8.here hx rfl (pc0 := 180) (pc' := 193) rfl (hb hby at_180) rfl (teq (by decide : (2 : Int32) = (2 : Int32))).1 (by decide) (by decide) k) ?_
  show own_Go p e below K (T8.setTop (mkF m 193 #[.val (.long q1), .second, .val (.long q2), .second, .val (.long q3), .second, .val (.int p4), .val (.int p5), .val (.int p6), .val (.int (2 : Int32)), .val (.int ia), .val (.int ((2 : Int32) - ia)), .val (.int ib), .val (.int ic), .val (.ref b1), .val (.long ((1 : Int64) <<< (ib &&& 0x3f).toInt64)), .second, .val (.long q3), .second, .val (.long (q3 &&& (((1 : Int64) <<< (ib &&& 0x3f).toInt64) ^^^ (-1 : Int64)))), .second, .val (.int (1 : Int32)), .val (.int (1 : Int32)), .unset] []))
  refine own_st (fun t k => XS.iconst X8.here hx rfl (hb hby at_193) k) ?_
  show own_Go p e below K (T8.setTop (mkF m 194 #[.val (.long q1), .second, .val (.long q2), .second, .val (.long q3), .second, .val (.int p4), .val (.int p5), .val (.int p6), .val (.int (2 : Int32)), .val (.int ia), .val (.int ((2 : Int32) - ia)), .val (.int ib), .val (.int ic), .val (.ref b1), .val (.long ((1 : Int64) <<< (ib &&& 0x3f).toInt64)), .second, .val (.long q3), .second, .val (.long (q3 &&& (((1 : Int64) <<< (ib &&& 0x3f).toInt64) ^^^ (-1 : Int64)))), .second, .val (.int (1 : Int32)), .val (.int (1 : Int32)), .unset] [(.int (1 : Int32))]))
  refine own_st (fun t k => XS.goto X8.here hx rfl (pc0 := 194) (pc' := 198) rfl (hb hby at_194) (by decide) (by decide) k) ?_
  show own_Go p e below K (T8.setTop (mkF m 198 #[.val (.long q1), .second, .val (.long q2), .second, .val (.long q3), .second, .val (.int p4), .val (.int p5), .val (.int p6), .val (.int (2 : Int32)), .val (.int ia), .val (.int ((2 : Int32) - ia)), .val (.int ib), .val (.int ic), .val (.ref b1), .val (.long ((1 : Int64) <<< (ib &&& 0x3f).toInt64)), .second, .val (.long q3), .second, .val (.long (q3 &&& (((1 : Int64) <<< (ib &&& 0x3f).toInt64) ^^^ (-1 : Int64)))), .second, .val (.int (1 : Int32)), .val (.int (1 : Int32)), .unset] [(.int (1 : Int32))]))
  refine own_st (fun t k => XS.istore X8.here hx rfl (hb hby at_198) rfl (l' := #[.val (.long q1), .second, .val (.long q2), .second, .val (.long q3), .second, .val (.int p4), .val (.int p5), .val (.int p6), .val (.int (2 : Int32)), .val (.int ia), .val (.int ((2 : Int32) - ia)), .val (.int ib), .val (.int ic), .val (.ref b1), .val (.long ((1 : Int64) <<< (ib &&& 0x3f).toInt64)), .second, .val (.long q3), .second, .val (.long (q3 &&& (((1 : Int64) <<< (ib &&& 0x3f).toInt64) ^^^ (-1 : Int64)))), .second, .val (.int (1 : Int32)), .val (.int (1 : Int32)), .val (.int (1 : Int32))]) rfl k) ?_
  show own_Go p e below K (T8.setTop (mkF m 200 #[.val (.long q1), .second, .val (.long q2), .second, .val (.long q3), .second, .val (.int p4), .val (.int p5), .val (.int p6), .val (.int (2 : Int32)), .val (.int ia), .val (.int ((2 : Int32) - ia)), .val (.int ib), .val (.int ic), .val (.ref b1), .val (.long ((1 : Int64) <<< (ib &&& 0x3f).toInt64)), .second, .val (.long q3), .second, .val (.long (q3 &&& (((1 : Int64) <<< (ib &&& 0x3f).toInt64) ^^^ (-1 : Int64)))), .second, .val (.int (1 : Int32)), .val (.int (1 : Int32)), .val (.int (1 : Int32))] []))
  refine own_st (fun t k => XS.iload X8.here hx rfl (hb hby at_200) rfl k) ?_
  show own_Go p e below K (T8.setTop (mkF m 202 #[.val (.long q1), .second, .val (.long q2), .second, .val (.long q3), .second, .val (.int p4), .val (.int p5), .val (.int p6), .val (.int (2 : Int32)), .val (.int ia), .val (.int ((2 : Int32) - ia)), .val (.int ib), .val (.int ic), .val (.ref b1), .val (.long ((1 : Int64) <<< (ib &&& 0x3f).toInt64)), .second, .val (.long q3), .second, .val (.long (q3 &&& (((1 : Int64) <<< (ib &&& 0x3f).toInt64) ^^^ (-1 : Int64)))), .second, .val (.int (1 : Int32)), .val (.int (1 : Int32)), .val (.int (1 : Int32))] [(.int (1 : Int32))]))
  refine own_st (fun t k => XS.ifNo X8.here hx rfl (hb hby at_202) rfl ((if0 _ _).trans (feq (by decide : ¬ ((1 : Int32) = (0 : Int32)))).1) k) ?_
  show own_Go p e below K (T8.setTop (mkF m 205 #[.val (.long q1), .second, .val (.long q2), .second, .val (.long q3), .second, .val (.int p4), .val (.int p5), .val (.int p6), .val (.int (2 : Int32)), .val (.int ia), .val (.int ((2 : Int32) - ia)), .val (.int ib), .val (.int ic), .val (.ref b1), .val (.long ((1 : Int64) <<< (ib &&& 0x3f).toInt64)), .second, .val (.long q3), .second, .val (.long (q3 &&& (((1 : Int64) <<< (ib &&& 0x3f).toInt64) ^^^ (-1 : Int64)))), .second, .val (.int (1 : Int32)), .val (.int (1 : Int32)), .val (.int (1 : Int32))] []))
  refine own_st (fun t k => XS.iload X8.here hx rfl (hb hby at_205) rfl k) ?_
  show own_Go p e below K (T8.setTop (mkF m 207 #[.val (.long q1), .second, .val (.long q2), .second, .val (.long q3), .second, .val (.int p4), .val (.int p5), .val (.int p6), .val (.int (2 : Int32)), .val (.int ia), .val (.int ((2 : Int32) - ia)), .val (.int ib), .val (.int ic), .val (.ref b1), .val (.long ((1 : Int64) <<< (ib &&& 0x3f).toInt64)), .second, .val (.long q3), .second, .val (.long (q3 &&& (((1 : Int64) <<< (ib &&& 0x3f).toInt64) ^^^ (-1 : Int64)))), .second, .val (.int (1 : Int32)), .val (.int (1 : Int32)), .val (.int (1 : Int32))] [(.int (1 : Int32))]))
  refine own_st (fun t k => XS.ifNo X8.here hx rfl (hb hby at_207) rfl ((if0 _ _).trans (feq (by decide : ¬ ((1 : Int32) = (0 : Int32)))).1) k) ?_
  show own_Go p e below K (T8.setTop (mkF m 210 #[.val (.long q1), .second, .val (.long q2), .second, .val (.long q3), .second, .val (.int p4), .val (.int p5), .val (.int p6), .val (.int (2 : Int32)), .val (.int ia), .val (.int ((2 : Int32) - ia)), .val (.int ib), .val (.int ic), .val (.ref b1), .val (.long ((1 : Int64) <<< (ib &&& 0x3f).toInt64)), .second, .val (.long q3), .second, .val (.long (q3 &&& (((1 : Int64) <<< (ib &&& 0x3f).toInt64) ^^^ (-1 : Int64)))), .second, .val (.int (1 : Int32)), .val (.int (1 : Int32)), .val (.int (1 : Int32))] []))
  refine own_st (fun t k => XS.iload X8.here hx rfl (hb hby at_210) rfl k) ?_
  show own_Go p e below K (T8.setTop (mkF m 212 #[.val (.long q1), .second, .val (.long q2), .second, .val (.long q3), .second, .val (.int p4), .val (.int p5), .val (.int p6), .val (.int (2 : Int32)), .val (.int ia), .val (.int ((2 : Int32) - ia)), .val (.int ib), .val (.int ic), .val (.ref b1), .val (.long ((1 : Int64) <<< (ib &&& 0x3f).toInt64)), .second, .val (.long q3), .second, .val (.long (q3 &&& (((1 : Int64) <<< (ib &&& 0x3f).toInt64) ^^^ (-1 : Int64)))), .second, .val (.int (1 : Int32)), .val (.int (1 : Int32)), .val (.int (1 : Int32))] [(.int (1 : Int32))]))
  refine own_st (fun t k => XS.ifNo X8.here hx rfl (hb hby at_212) rfl ((if0 _ _).trans (feq (by decide : ¬ ((1 : Int32) = (0 : Int32)))).1) k) ?_
  show own_Go p e below K (T8.setTop (mkF m 215 #[.val (.long q1), .second, .val (.long q2), .second, .val (.long q3), .second, .val (.int p4), .val (.int p5), .val (.int p6), .val (.int (2 : Int32)), .val (.int ia), .val (.int ((2 : Int32) - ia)), .val (.int ib), .val (.int ic), .val (.ref b1), .val (.long ((1 : Int64) <<< (ib &&& 0x3f).toInt64)), .second, .val (.long q3), .second, .val (.long (q3 &&& (((1 : Int64) <<< (ib &&& 0x3f).toInt64) ^^^ (-1 : Int64)))), .second, .val (.int (1 : Int32)), .val (.int (1 : Int32)), .val (.int (1 : Int32))] []))
  refine own_st (fun t k => XS.iconst X8.here hx rfl (hb hby at_215) k) ?_
  show own_Go p e below K (T8.setTop (mkF m 216 #[.val (.long q1), .second, .val (.long q2), .second, .val (.long q3), .second, .val (.int p4), .val (.int p5), .val (.int p6), .val (.int (2 : Int32)), .val (.int ia), .val (.int ((2 : Int32) - ia)), .val (.int ib), .val (.int ic), .val (.ref b1), .val (.long ((1 : Int64) <<< (ib &&& 0x3f).toInt64)), .second, .val (.long q3), .second, .val (.long (q3 &&& (((1 : Int64) <<< (ib &&& 0x3f).toInt64) ^^^ (-1 : Int64)))), .second, .val (.int (1 : Int32)), .val (.int (1 : Int32)), .val (.int (1 : Int32))] [(.int (1 : Int32))]))
  refine own_st (fun t k => XS.goto X8.here hx rfl (pc0 := 216) (pc' := 220) rfl (hb hby at_216) (by decide) (by decide) k) ?_
  show own_Go p e below K (T8.setTop (mkF m 220 #[.val (.long q1), .second, .val (.long q2), .second, .val (.long q3), .second, .val (.int p4), .val (.int p5), .val (.int p6), .val (.int (2 : Int32)), .val (.int ia), .val (.int ((2 : Int32) - ia)), .val (.int ib), .val (.int ic), .val (.ref b1), .val (.long ((1 : Int64) <<< (ib &&& 0x3f).toInt64)), .second, .val (.long q3), .second, .val (.long (q3 &&& (((1 : Int64) <<< (ib &&& 0x3f).toInt64) ^^^ (-1 : Int64)))), .second, .val (.int (1 : Int32)), .val (.int (1 : Int32)), .val (.int (1 : Int32))] [(.int (1 : Int32))]))
  obtain ⟨fs, hr, hrun, hended, hW, hsame⟩ := X8.leave (v := some (.int (nar .boolean (1 : Int32)))) (fun h => by rw [Bd.returns] at h; cases h)
  refine ⟨_, retN X8 hx (t := .boolean) Bd.returns (by simp) (hb hby at_220) hr, fin _ _ _ hrun hended ?_ ⟨⟨_, rfl⟩, hW, hsame.mono (by decide) (by decide)⟩⟩
  show Q0 Z q1 q2 q3 p4 p5 p6 h0 n0 _ T8.heap _
  exact ⟨rfl, N8⟩
set_option maxRecDepth 65536 in
set_option maxHeartbeats 40000000 in
theorem comes_1 {Post : Tables → Env → Array Value → State → Outcome → State → Prop} (hpost : ∀ tb e args s v u, (limb_1_1.after args s (.returned v) u = true ∧ limb_1_2.after args s (.returned v) u = true ∧ True) → FrameEnd s (.returned v) u (Jvm.fieldLocs frame_1_writes args s ++ Jvm.arrayLocs frame_1_arrays args s ++ Jvm.staticLocs frame_1_statics s) 16 128 → Post tb e args s (.returned v) u) :
    ArmFor flags0 classFile x code maxLocals ret World_1 tables_1 room_1 Calls_1 rest_1 Pre_1 Post := by
  intro l hfl _ _ p e ha hc hk s m args below hf hA hF happ hP
  obtain ⟨hcalls, hrest, hpre⟩ := hP
  obtain ⟨-, -, -, hnamed, -, -, -, hat⟩ := (Spec.applies_iff hf).mp happ
  obtain ⟨hg, hn⟩ := and_e (Cond.before_iff.mp (show (Jvm.Cond.and given_1 narrow_1).before args s = true from hpre))
  obtain ⟨g1, g2⟩ := and_e hg
  obtain ⟨g3, g4⟩ := and_e g2
  obtain ⟨g5, g6⟩ := and_e g4
  obtain ⟨g7, g8⟩ := and_e g6
  obtain ⟨g9, g10⟩ := and_e g8
  obtain ⟨g11, g12⟩ := and_e g10
  obtain ⟨w0, w1, w2, w3, w4, w5, rfl⟩ : ∃ w0 w1 w2 w3 w4 w5 : Value, args = #[w0, w1, w2, w3, w4, w5] := by
    have hs : args.size = 6 := by simpa [Cond.value, given_1] using g1
    obtain ⟨L⟩ := args
    match L, hs with
    | [w0, w1, w2, w3, w4, w5], _ => exact ⟨w0, w1, w2, w3, w4, w5, rfl⟩
  have hw := fun d (hd : d ∈ tables_1) => atoms_spec (ws := Jvm.Cond.code x code maxLocals ret :: tables_1) hat d (List.mem_cons_of_mem _ hd)
  have hfit : Fit s := fun {y c} hc i hi => by
    obtain ⟨ha, rfl⟩ := Array.getElem?_eq_some_iff.mp hc
    have q := List.all_eq_true.mp ((Array.all_eq_true_iff_forall_mem.mp hF) _ (Array.getElem_mem ha)) i (List.mem_range.mpr hi)
    simpa [Array.getElem?_eq_getElem hi] using q
  obtain ⟨i0, ei0⟩ := isL_v g3
  obtain rfl : w0 = (.long i0) := Option.some.inj ei0
  obtain ⟨i1, ei1⟩ := isL_v g5
  obtain rfl : w1 = (.long i1) := Option.some.inj ei1
  obtain ⟨i2, ei2⟩ := isL_v g7
  obtain rfl : w2 = (.long i2) := Option.some.inj ei2
  obtain ⟨i3, ei3⟩ := is_v g9
  obtain rfl : w3 = (.int i3) := Option.some.inj ei3
  obtain ⟨i4, ei4⟩ := is_v g11
  obtain rfl : w4 = (.int i4) := Option.some.inj ei4
  obtain ⟨i5, ei5⟩ := is_v g12
  obtain rfl : w5 = (.int i5) := Option.some.inj ei5
  obtain ⟨n, o, h1, h2, h3, _, L, rfl, ⟨rfl, N⟩, hq⟩ := rm0 l s _ hw tables_1 i0 i1 i2 i3 i4 i5 s.heap s.heap.size (Nat.le_refl _) p e ha hc hk s m _ below hf ((Spec.applies_iff_loose hf).mp happ).1 ⟨rfl, State.Warmed39.refl s, rfl⟩ trivial
  refine ⟨n, _, h1, h2, h3, hpost _ _ _ _ _ _ ⟨Cond.after_iff.mpr rfl, Cond.after_iff.mpr (eq_i res_at (Term.int_eval (1)) rfl), trivial⟩ ⟨hq.1, hq.2.1, (hq.2.2.sift fun y hy => Or.inr (N y hy)).mono (by decide) (by decide)⟩⟩
theorem main_1_1 : Claimed_1_1 := comes_1 fun _ _ _ _ _ _ h hF => ⟨h.1, hF⟩
theorem main_1_2 : Claimed_1_2 := comes_1 fun _ _ _ _ _ _ h hF => ⟨h.2.1, hF⟩
end Jvm.Pilot.@@N@@
namespace Jvm.Pilot.@@N@@
open Jvm Jvm.ClassFile Sem Op Lib Jvm.Free Jvm.Stand Jvm.Pilot.@@N@@.Jvm.D
/-! MADE BY PROGRAM (witnessworld.py) out of the Statement's table words and the real class files: 11 classes; the members and pool entries that the words name. The judged class is class 1, her method 1. -/
namespace start1
open Jvm.ClassFile
def u (s : String) : CpInfo := .utf8 (stringToUtf16 s)
/-- a pool by its gaps: so many unusable entries, then the entry; so many at the end -/
def gap : Nat → List CpInfo → List CpInfo
  | 0, r => r
  | n + 1, r => .unusable :: gap n r
def poolList (es : List (Nat × CpInfo)) (last : Nat) : List CpInfo := es.foldr (fun e r => gap e.1 (e.2 :: r)) (gap last [])
def pool (es : List (Nat × CpInfo)) (last : Nat) : Array CpInfo := ⟨poolList es last⟩
def fileOf (pool : Array CpInfo) (this : Nat) (attrs : Array Attribute := #[]) (ms : Array MethodInfo := #[]) (fl : Nat := 33) (sup : Nat := 0) (ifs : Array Nat := #[]) (fds : Array FieldInfo := #[]) : ClassFile where
  minorVersion := 0
  majorVersion := 65
  constantPool := pool
  accessFlags := fl
  thisClass := this
  superClass := sup
  interfaces := ifs
  fields := fds
  methods := ms
  attributes := attrs
def plain (name : String) (sup : Option ClassId) : Class where
  name := name
  kind := .ordinary
  loader := none
  accessFlags := 33
  super := sup
  interfaces := #[]
  cf := none
  fields := #[]
  methods := #[]
  instanceTypes := #[]
  staticTypes := #[]
  resolved := #[]
  callSites := []
  init := .initialized
  statics := none
  mirror := none

def pool0 : Array CpInfo := pool [(5, u "<init>"), (0, u "()V"), (1, .class_ 10), (1, u "java/lang/Object")] 113

def k0m0 : Method := { name := "<init>", desc := "()V", sig := { parameters := [], returnType := none }, accessFlags := 1, code := none }
/-- java/lang/Object -/
def k0 : Class := { plain "java/lang/Object" none with
  accessFlags := 33
  interfaces := #[]
  cf := some (fileOf pool0 8 #[] #[{ accessFlags := 1, nameIndex := 5, descriptorIndex := 6, attributes := #[] }] 33 0 #[] #[])
  fields := #[]
  methods := #[k0m0]
  instanceTypes := #[]
  staticTypes := #[]
  resolved := Array.replicate 124 none
  statics := none }

def pool1 : Array CpInfo := pool [(2, .class_ 4), (1, u "java/lang/Object"), (0, u "<init>"), (0, u "()V"), (0, .integer 2147483647), (0, .methodref 9 10), (0, .class_ 11), (0, .nameAndType 12 13), (0, u "com/example/slotwright/slotwright/instance/CourseSet"), (0, u "remove"), (0, u "([JII)V"), (0, .class_ 15), (0, u "com/example/slotwright/slotwright/instance/CourseSetRemovePinLaw"), (2, u "law"), (0, u "(JJJIII)Z")] 5

def k1m0 : Method := { name := "<init>", desc := "()V", sig := { parameters := [], returnType := none }, accessFlags := 1, code := none }
def k1c1 : Code := { maxStack := 6, maxLocals := 24, code := code, exceptionTable := #[], attributes := #[] }
def k1m1 : Method := { name := "law", desc := "(JJJIII)Z", sig := { parameters := [.long, .long, .long, .int, .int, .int], returnType := some .boolean }, accessFlags := 9, code := some k1c1 }
/-- com/example/slotwright/slotwright/instance/CourseSetRemovePinLaw -/
def k1 : Class := { plain "com/example/slotwright/slotwright/instance/CourseSetRemovePinLaw" (some 0) with
  accessFlags := 49
  interfaces := #[]
  cf := some (fileOf pool1 14 #[] #[{ accessFlags := 1, nameIndex := 5, descriptorIndex := 6, attributes := #[] }, { accessFlags := 9, nameIndex := 18, descriptorIndex := 19, attributes := #[] }] 49 2 #[] #[])
  fields := #[]
  methods := #[k1m0, k1m1]
  instanceTypes := #[]
  staticTypes := #[]
  resolved := Array.replicate 25 none
  statics := none }

def pool2 : Array CpInfo := pool [(2, .class_ 4), (1, u "java/lang/Object"), (3, .class_ 10), (1, u "com/example/slotwright/slotwright/instance/CourseSet"), (0, u "words"), (0, u "[J"), (35, u "([JII)V"), (5, .long 18446744073709551615), (13, u "remove")] 6

def k2c0 : Code := { maxStack := 8, maxLocals := 3, code := prog_34_method_5_code, exceptionTable := #[], attributes := #[] }
def k2m0 : Method := { name := "remove", desc := "([JII)V", sig := { parameters := [(.array .long), .int, .int], returnType := none }, accessFlags := 9, code := some k2c0 }
/-- com/example/slotwright/slotwright/instance/CourseSet -/
def k2 : Class := { plain "com/example/slotwright/slotwright/instance/CourseSet" (some 0) with
  accessFlags := 49
  interfaces := #[]
  cf := some (fileOf pool2 8 #[] #[{ accessFlags := 9, nameIndex := 68, descriptorIndex := 48, attributes := #[] }] 49 2 #[] #[{ accessFlags := 18, nameIndex := 11, descriptorIndex := 12, attributes := #[] }])
  fields := #[{ name := "words", type := (.array .long), accessFlags := 18, slot := 0, constantValue := 0 }]
  methods := #[k2m0]
  instanceTypes := #[(.array .long)]
  staticTypes := #[]
  resolved := Array.replicate 75 none
  statics := none }

def pool3 : Array CpInfo := pool [(1, u "java/lang/Cloneable"), (0, .class_ 1), (0, u "java/lang/Object"), (0, .class_ 3)] 3

/-- java/lang/Cloneable -/
def k3 : Class := { plain "java/lang/Cloneable" (some 0) with
  accessFlags := 1537
  interfaces := #[]
  cf := some (fileOf pool3 2 #[] #[] 1537 4 #[] #[])
  fields := #[]
  methods := #[]
  instanceTypes := #[]
  staticTypes := #[]
  resolved := Array.replicate 8 none
  statics := none }

def pool4 : Array CpInfo := pool [(1, u "java/io/Serializable"), (0, .class_ 1), (0, u "java/lang/Object"), (0, .class_ 3)] 3

/-- java/io/Serializable -/
def k4 : Class := { plain "java/io/Serializable" (some 0) with
  accessFlags := 1537
  interfaces := #[]
  cf := some (fileOf pool4 2 #[] #[] 1537 4 #[] #[])
  fields := #[]
  methods := #[]
  instanceTypes := #[]
  staticTypes := #[]
  resolved := Array.replicate 8 none
  statics := none }

/-- the primitive byte -/
def k5 : Class := { plain "byte" none with kind := .primitive 'B', accessFlags := 0x411 }
/-- [B -/
def k6 : Class := { plain "[B" (some 0) with kind := .array 5 .byte, interfaces := #[3, 4], accessFlags := 1041 }

/-- the primitive int -/
def k7 : Class := { plain "int" none with kind := .primitive 'I', accessFlags := 0x411 }
/-- [I -/
def k8 : Class := { plain "[I" (some 0) with kind := .array 7 .int, interfaces := #[3, 4], accessFlags := 1041 }

/-- the primitive long -/
def k9 : Class := { plain "long" none with kind := .primitive 'J', accessFlags := 0x411 }
/-- [J -/
def k10 : Class := { plain "[J" (some 0) with kind := .array 9 .long, interfaces := #[3, 4], accessFlags := 1041 }

def heap : Heap := #[]
def classes : Array Class := #[k0, k1, k2, k3, k4, k5, k6, k7, k8, k9, k10]
def interned : List (Array UInt16 × Addr) := []
def slotsUsed : Nat := 0
def theMethod : MethodId := ⟨1, 1⟩
def args0 : Array Value := #[.long 1, .long 2, .long 3, .int 4, .int 5, .int 6]
def aboutOver (below : List Frame) : State where
  vm := { classes := classes, interned := interned.toArray }
  heap := heap
  slotsUsed := slotsUsed
  threads := #[{ frames := .invoking theMethod args0 :: below }]
def below0 : List Frame := [.native { method := ⟨0, 0⟩, args := #[] }]
def about1 : State := aboutOver below0
def p0 : Program := .bare "" "" ""
def e0 : Env := launch0.env 0 0 0
theorem w_frames : about1.frames = Frame.invoking theMethod args0 :: below0 := rfl
set_option maxRecDepth 65536 in
theorem w_args : argsFit about1.vm theMethod args0 = true := by decide +kernel
set_option maxRecDepth 65536 in
theorem w_heap : heapFits about1 = true := by decide +kernel
set_option maxRecDepth 65536 in
theorem w_runnable : about1.curStatus? = some .runnable := by decide +kernel
set_option maxRecDepth 65536 in
theorem w_alone : about1.alone = true := by decide +kernel
set_option maxRecDepth 65536 in
theorem w_named : about1.methodNamed? x = some theMethod := by decide +kernel
set_option maxRecDepth 65536 in
theorem w_hears : about1.hears theMethod below0 = true := by decide +kernel
set_option maxRecDepth 65536 in
theorem w_ripe : about1.ripe theMethod args0 below0 = true := by decide +kernel
theorem w_running : about1.status = .running := rfl
set_option maxRecDepth 65536 in
theorem w_room : about1.hasRoom e0.platform room_1 = true :=
  launch0.hasRoom_least _ room_1 (by decide +kernel) (by decide +kernel) (by decide +kernel) (by decide +kernel) (by decide +kernel) (by decide +kernel)
theorem allAtoms_all (ts : List Jvm.Cond) (a : Array Jvm.Value) (st : Jvm.State) : (allAtoms ts).before a st = ts.all (fun c => c.before a st) := by
  induction ts with
  | nil => rfl
  | cons c t ih =>
    show (Jvm.Cond.and c (allAtoms t)).before a st = _
    rw [Jvm.Cond.before_and, ih, List.all_cons]
def words1 : List Jvm.Cond := Jvm.Cond.code x code maxLocals ret :: tables_1
/-- a 'code' word, met by the world's own term for the bytes: nothing is compared byte by byte -/
theorem code_word {y : MethodName} {bytes : ByteArray} {mx : Nat} {rt : Option FieldType} {a : Array Value} {s : State} {m : MethodId} {meth : Method} {c : Code} (h1 : s.methodNamed? y = some m) (h2 : s.vm.method? m = some meth) (h3 : meth.code = some c) (h4 : c.code = bytes)
    (h5 : (c.maxLocals == mx && c.exceptionTable.isEmpty && decide (c.maxStack ≤ mostOperands) && decide (meth.sig.returnType = rt) && !meth.locks && decide (parseMethodDescriptor y.desc = some meth.sig)) = true) : (Jvm.Cond.code y bytes mx rt).before a s = true := by
  simp only [Bool.and_eq_true, beq_iff_eq, Bool.not_eq_true', decide_eq_true_eq] at h5
  obtain ⟨⟨⟨⟨⟨g1, g2⟩, g3⟩, g4⟩, g5⟩, g6⟩ := h5
  simp [Cond.before, Cond.holds, Cond.value, h1, h2, h3, h4, g1, g2, g3, g4, g5, g6]
def isCode : Jvm.Cond → Bool
  | .code _ _ _ _ => true
  | _ => false
theorem all_split {L : List Jvm.Cond} {P : Jvm.Cond → Bool} (h1 : L.all (fun c => isCode c || P c) = true) (h2 : ∀ c ∈ L.filter isCode, P c = true) : L.all P = true := by
  refine List.all_eq_true.mpr fun c hc => ?_
  have h := List.all_eq_true.mp h1 c hc
  rcases Bool.eq_false_or_eq_true (isCode c) with hi | hi
  · exact h2 c (List.mem_filter.mpr ⟨hc, hi⟩)
  · simpa [hi] using h
set_option maxRecDepth 65536 in
theorem w_c0 : (Jvm.Cond.code x code maxLocals ret).before args0 about1 = true := code_word (m := ⟨1, 1⟩) (meth := k1m1) (c := k1c1) (by decide +kernel) rfl rfl rfl (by decide +kernel)
set_option maxRecDepth 65536 in
theorem w_c1 : (Jvm.Cond.code ({ cls := "com/example/slotwright/slotwright/instance/CourseSet", name := "remove", desc := "([JII)V" } : Jvm.MethodName) prog_34_method_5_code (3 : Nat) (Option.none : Option Jvm.ClassFile.FieldType)).before args0 about1 = true := code_word (m := ⟨2, 0⟩) (meth := k2m0) (c := k2c0) (by decide +kernel) rfl rfl rfl (by decide +kernel)
def codes1 : List Jvm.Cond := [Jvm.Cond.code x code maxLocals ret, Jvm.Cond.code ({ cls := "com/example/slotwright/slotwright/instance/CourseSet", name := "remove", desc := "([JII)V" } : Jvm.MethodName) prog_34_method_5_code (3 : Nat) (Option.none : Option Jvm.ClassFile.FieldType)]
set_option maxRecDepth 65536 in
theorem codes_eq : words1.filter isCode = codes1 := rfl
theorem w_codes : ∀ c ∈ words1.filter isCode, c.before args0 about1 = true := by
  rw [codes_eq]
  intro c hc
  simp only [codes1, List.mem_cons, List.not_mem_nil, or_false] at hc
  rcases hc with rfl | rfl
  · exact w_c0
  · exact w_c1
set_option maxRecDepth 65536 in
theorem w_t1 : words1.all (fun c => isCode c || c.before args0 about1) = true := by decide +kernel
theorem w_tables : (allAtoms (Jvm.Cond.code x code maxLocals ret :: tables_1)).before args0 about1 = true := by
  rw [allAtoms_all]
  show words1.all (fun c => c.before args0 about1) = true
  refine all_split ?_ w_codes
  rw [w_t1]
set_option maxRecDepth 65536 in
theorem w_case : (Jvm.Cond.and given_1 narrow_1).before args0 about1 = true := by decide +kernel
theorem w_applies : (headSpec (Jvm.Cond.code x code maxLocals ret :: tables_1) room_1).applies x e0.platform about1 = true :=
  (Spec.applies_iff w_frames).mpr ⟨w_running, w_runnable, w_alone, w_named, w_hears, w_ripe, w_room, w_tables⟩
theorem atStart : AtStart classFile x code maxLocals ret World_1 tables_1 room_1 Calls_1 rest_1 Pre_1 launch0 p0 e0 about1 theMethod args0 below0 :=
  ⟨lists_1, trivial, launch0.admits_env _ _ _, launch0.least_env, fairChoices_fair.cas, fairChoices_fair.clock, w_frames, w_args, w_heap, w_applies, trivial, trivial, w_case⟩
end start1
theorem witness_1 : WitnessClaimed_1 := ⟨start1.p0, start1.e0, start1.about1, start1.theMethod, start1.args0, start1.below0, start1.atStart⟩
end Jvm.Pilot.@@N@@
