import JvmDerived
import JvmDerived.Pilot.@@N@@Statement
import JvmDerived.Pilot.@@N@@Code
set_option linter.unusedVariables false
set_option linter.unusedSimpArgs false
namespace Jvm.RoadKit
open Sem ClassFile Op Lib Jvm.Stand Jvm.Free Jvm.LawKit
section New
variable {p : Program} {l : Launch} {e : Env} {R : Room} {s : State} {m : MethodId} {args : Array Value} {below : List Frame} {meth : Method} {c : Code} {T : State} {locs : List Loc} {cells slots : Nat}
theorem retI (X : Stand p l e R s m args below meth c T locs cells slots) (hx : p.tables.exec = Jvm.exec) {pc : Nat} {Ls : Array Slot} {z : Int32} {rest : List Value} (hret : meth.sig.returnType = some .int) (hd : decode c.code pc = .ok (.ireturn, 1)) {fs : List Frame}
    (hl : ∀ (f : JFrame) (acts : List Action), f.method = m → f.locked = none → f.entered = [] → (doReturn e (T.setTop f) acts (some (.int z))).1 = T.setFrames fs) : Steps p.tables e below (T.setTop (mkF m pc Ls (.int z :: rest))) (T.setFrames fs) := by
  have hm' : T.vm.method? m = some meth := X.method'
  have hn : narrow .int (.int z) = .int z := rfl
  show Steps p.tables e below (T.setTop { method := m, pc := pc, locals := Ls, stack := _ :: rest, locked := none }) _
  jvm_step X.here [X.here.top, hx, hd, hm', hret, hn]
  first | (intro acts; rw [hl _ acts rfl rfl rfl]) | rw [hl _ _ rfl rfl rfl]
  exact Steps.refl _
end New
end Jvm.RoadKit
namespace Jvm.Pilot.@@N@@
open Jvm Jvm.ClassFile Sem Op Lib Jvm.Free Jvm.Stand Jvm.LawKit Jvm.RoadKit Bundle Jvm.Pilot.@@N@@.Jvm.D
/-- from the state T the run comes to a state of which K holds -/
def own_Go (p : Program) (e : Env) (below : List Frame) (K : State → Prop) (T : State) : Prop := ∃ t, Steps p.tables e below T t ∧ K t
theorem own_st {p : Program} {e : Env} {below : List Frame} {K : State → Prop} {T T' : State} (h : ∀ t, Steps p.tables e below T' t → Steps p.tables e below T t) (g : own_Go p e below K T') : own_Go p e below K T := by
  obtain ⟨t, a, b⟩ := g; exact ⟨t, h t a, b⟩
theorem own_tr {p : Program} {e : Env} {below : List Frame} {K : State → Prop} {T T' : State} (h : Steps p.tables e below T T') (g : own_Go p e below K T') : own_Go p e below K T := by
  obtain ⟨t, a, b⟩ := g; exact ⟨t, h.trans a, b⟩
theorem own_lrem {tb : Tables} [Ours tb] {e : Env} {below : List Frame} {T target : State} {m : MethodId} {c : Code} {g : JFrame} (h : At T m c below) (hx : tb.exec = Jvm.exec) (hg : g.method = m) {x y : Int64} {rest : List Value} (hd : decode c.code g.pc = .ok (.lrem, 1)) (hs : g.stack = .long y :: .long x :: rest) (hy : y ≠ 0)
    (hr : Steps tb e below (T.setTop { g with pc := g.pc + 1, stack := .long (x % y) :: rest }) target) : Steps tb e below (T.setTop g) target := by
  have q : x - x / y * y = x % y := lrem_mod x y
  exact XS.lrem h hx hg hd hs hy (by rw [q]; exact hr)
/-- a boolean's worth: 1 where P holds, 0 where it doesn't -/
def own_B (P : Prop) (r : Int32) : Prop := (r = 1 ∧ P) ∨ (r = 0 ∧ ¬ P)
theorem own_B.yes {P : Prop} {r : Int32} (e : r = 1) (h : P) : own_B P r := Or.inl ⟨e, h⟩
theorem own_B.no {P : Prop} {r : Int32} (e : r = 0) (h : ¬ P) : own_B P r := Or.inr ⟨e, h⟩
theorem own_B.same {P Q : Prop} {r v : Int32} (a : own_B P r) (b : own_B Q v) (h : P ↔ Q) : r = v := by
  rcases a with ⟨rfl, p⟩ | ⟨rfl, p⟩ <;> rcases b with ⟨rfl, q⟩ | ⟨rfl, q⟩
  · rfl
  · exact absurd (h.mp p) q
  · exact absurd (h.mpr q) p
  · rfl
theorem own_B.one {P : Prop} {r : Int32} (a : own_B P r) (h : P) : r = 1 := by
  rcases a with ⟨rfl, p⟩ | ⟨rfl, p⟩
  · rfl
  · exact absurd h p
theorem own_B.zero {P : Prop} {r : Int32} (a : own_B P r) (h : ¬ P) : r = 0 := by
  rcases a with ⟨rfl, p⟩ | ⟨rfl, p⟩
  · exact absurd p h
  · rfl
theorem own_B.ne0 {P : Prop} {r : Int32} (a : own_B P r) (h : P) : ¬ r = 0 := by rw [a.one h]; decide
theorem own_B.holds {P : Prop} {r : Int32} (a : own_B P r) (h : ¬ r = 0) : P := by
  rcases a with ⟨rfl, p⟩ | ⟨rfl, p⟩
  · exact p
  · exact absurd rfl h
theorem own_B.fails {P : Prop} {r : Int32} (a : own_B P r) (h : r = 0) : ¬ P := by
  rcases a with ⟨rfl, p⟩ | ⟨rfl, p⟩
  · exact absurd h (by decide)
  · exact p
theorem own_atJ (ws : List Int64) (i : Nat) : (ws.map Value.long).getD i (.long (0 : Int64)) = .long (ws.getD i 0) := by
  simp only [List.getD, List.getElem?_map]; cases ws[i]? <;> rfl
theorem own_atI (ws : List Int32) (i : Nat) : (ws.map Value.int).getD i (.int (0 : Int32)) = .int (ws.getD i 0) := by
  simp only [List.getD, List.getElem?_map]; cases ws[i]? <;> rfl
theorem own_selp {Z s : State} {a0 args : Array Value} {y : MethodName} {n : Nat} (hZ : Z.Warmed39 s.vm) (wi : (Jvm.Cond.instantiable y.cls n).before a0 Z = true) (wm : (Jvm.Cond.instanceMethod y).before a0 Z = true) (wp : (Jvm.Cond.privateMethod y).before a0 Z = true) (hy : y.cls ≠ "java/lang/invoke/MethodHandle" ∧ y.cls ≠ "java/lang/invoke/VarHandle") : (Jvm.Cond.selects y.cls y y).before args s = true := by
  have w1 : (Jvm.Cond.instantiable y.cls n).before args s = true := mvT hZ wi
  obtain ⟨c, k, h1, h2, h3, h4, -⟩ := Cond.instantiable_spec w1
  have h5 : k.isInterface = false := by cases hq : k.isInterface <;> simp [hq] at h4 ⊢
  exact selects_self_of_private h1 h2 h5 (Cond.privateMethod_at (mvP hZ wp (args := args))) (mvT hZ wm) hy
theorem own_hat {T : State} {h : Heap} {a : Addr} {c : Cell} (e : T.heap = h) (q : h[a]? = some c) : T.heap[a]? = some c := by rw [e]; exact q
theorem own_nn (x : Int32) : nar .byte (nar .byte x) = nar .byte x := by
  refine Int32.toInt_inj.mp ?_
  have a := c_i2b x
  have b := c_i2b x.toInt8.toInt32
  show x.toInt8.toInt32.toInt8.toInt32.toInt = x.toInt8.toInt32.toInt
  omega
theorem own_nb (x : Int32) : nar .byte x.toInt8.toInt32 = x.toInt8.toInt32 := own_nn x
theorem own_fit {x : Int32} (h : nar .byte x = x) : fits .byte (.int x) = true := by rw [← h]; exact fits_nar_byte x
theorem own_cl {j : Int32} {i : Nat} (h : j.toInt = (i : Int)) : j.toNatClampNeg = i := by rw [Int32.toNatClampNeg, h]; rfl
theorem own_lt {a b : Int32} (h : a.toInt < b.toInt) : a < b := Int32.lt_iff_toInt_lt.mpr h
theorem own_nlt {a b : Int32} (h : b.toInt ≤ a.toInt) : ¬ a < b := fun q => absurd (Int32.lt_iff_toInt_lt.mp q) (by omega)
theorem own_ltI {a b : Int32} (h : a < b) : a.toInt < b.toInt := Int32.lt_iff_toInt_lt.mp h
theorem own_nltI {a b : Int32} (h : ¬ a < b) : b.toInt ≤ a.toInt := by have := mt Int32.lt_iff_toInt_lt.mpr h; omega
theorem own_neI {a b : Int32} (h : ¬ a = b) : ¬ a.toInt = b.toInt := fun q => h (Int32.toInt_inj.mp q)
theorem own_ltL {a b : Int64} (h : a < b) : a.toInt < b.toInt := Int64.lt_iff_toInt_lt.mp h
theorem own_nltL {a b : Int64} (h : ¬ a < b) : b.toInt ≤ a.toInt := by have := mt Int64.lt_iff_toInt_lt.mpr h; omega
theorem own_neL {a b : Int64} (h : ¬ a = b) : ¬ a.toInt = b.toInt := fun q => h (Int64.toInt_inj.mp q)
theorem own_ia {a i : Int32} (h : a &&& (3 : Int32) = i) : 0 ≤ i.toInt ∧ i.toInt ≤ 3 := by
  have e := c_mask a 3 2 (by decide) (by decide)
  rw [h] at e
  have e' : i.toInt = a.toInt % 4 := e
  omega
theorem own_m64 {i : Int32} (h : 0 ≤ i.toInt ∧ i.toInt ≤ 3) : (((4 : Int32) - i) * (64 : Int32)).toInt = (4 - i.toInt) * 64 := by
  have s := c_isub 4 i
  have m := c_imul (4 - i) 64
  have t1 : (4 : Int32).toInt = 4 := by decide
  have t2 : (64 : Int32).toInt = 64 := by decide
  have r1 := rng32 (4 - i)
  have r2 := rng32 ((4 - i) * 64)
  rw [t1] at s
  rw [t2] at m
  omega
theorem own_nz {i : Int32} (h : 0 ≤ i.toInt ∧ i.toInt ≤ 3) : ((4 : Int32) - i) * (64 : Int32) ≠ 0 := fun q => by
  have e := own_m64 h
  rw [q] at e
  have e' : (0 : Int) = (4 - i.toInt) * 64 := e
  omega
theorem own_ic {c i j : Int32} (h : 0 ≤ i.toInt ∧ i.toInt ≤ 3) (hj : (c &&& (2147483647 : Int32)) % (((4 : Int32) - i) * (64 : Int32)) = j) : 0 ≤ j.toInt ∧ j.toInt < (4 - i.toInt) * 64 := by
  have e := own_m64 h
  have k := c_mask c 2147483647 31 (by decide) (by decide)
  have k' : (c &&& (2147483647 : Int32)).toInt = c.toInt % 2147483648 := k
  have v := (c_iremV (c &&& 2147483647) ((4 - i) * 64)).1 (by omega) (by omega)
  rw [hj] at v
  omega
theorem own_d64 {j : Int32} (h : 0 ≤ j.toInt) : (j / (64 : Int32)).toInt = j.toInt / 64 := (c_idiv j 64 64 (by decide) (by decide)).1 h
theorem own_tg {i j : Int32} (h : 0 ≤ i.toInt ∧ i.toInt ≤ 3) (hj : 0 ≤ j.toInt ∧ j.toInt < (4 - i.toInt) * 64) : (i + j / (64 : Int32)).toInt = i.toInt + j.toInt / 64 := by
  have d := own_d64 hj.1
  have a := c_iadd i (j / 64)
  have r := rng32 (i + j / 64)
  omega
theorem own_hl {i j : Int32} (h : 0 ≤ i.toInt ∧ i.toInt ≤ 3) (hj : 0 ≤ j.toInt ∧ j.toInt < (4 - i.toInt) * 64) : (i + (j / (64 : Int32))).toNatClampNeg < 4 := by
  have e := own_tg h hj
  rw [own_cl (i := (i.toInt + j.toInt / 64).toNat) (by rw [e]; omega)]
  omega
theorem own_sh {i j : Int32} (h : 0 ≤ i.toInt ∧ i.toInt ≤ 3) (hj : 0 ≤ j.toInt ∧ j.toInt < (4 - i.toInt) * 64) : i + (j >>> ((6 : Int32) &&& 31)) = i + j / (64 : Int32) := by
  have d := own_d64 hj.1
  have e : (j >>> ((6 : Int32) &&& 31)).toInt = j.toInt / 64 := c_ishr j 6 6 (by decide)
  have q : j >>> ((6 : Int32) &&& 31) = j / (64 : Int32) := Int32.toInt_inj.mp (by rw [d, e])
  rw [q]
theorem own_bit {j : Int32} (h : 0 ≤ j.toInt) : (j % (64 : Int32)) &&& 0x3f = j &&& 0x3f := by
  refine Int32.toInt_inj.mp ?_
  have a : ((j % (64 : Int32)) &&& 0x3f).toInt = (j % (64 : Int32)).toInt % 64 := c_mask _ 0x3f 6 (by decide) (by decide)
  have b : (j &&& 0x3f).toInt = j.toInt % 64 := c_mask _ 0x3f 6 (by decide) (by decide)
  have c := (c_irem j 64 64 (by decide)).1 h
  omega
theorem own_four {t : Int32} (h : 0 ≤ t.toInt ∧ t.toInt ≤ 3) : t = 0 ∨ t = 1 ∨ t = 2 ∨ t = 3 := by
  have h' : t.toInt = 0 ∨ t.toInt = 1 ∨ t.toInt = 2 ∨ t.toInt = 3 := by omega
  rcases h' with q | q | q | q
  · exact Or.inl (Int32.toInt_inj.mp q)
  · exact Or.inr (Or.inl (Int32.toInt_inj.mp q))
  · exact Or.inr (Or.inr (Or.inl (Int32.toInt_inj.mp q)))
  · exact Or.inr (Or.inr (Or.inr (Int32.toInt_inj.mp q)))
def own_ex (w : Int64) (i t : Int32) (b : Int64) : Int64 := if i = t then w ||| b else w
theorem own_at4 {w0 w1 w2 w3 b : Int64} {t : Int32} (h : 0 ≤ t.toInt ∧ t.toInt ≤ 3) :
    (([w0, w1, w2, w3].set t.toNatClampNeg (([w0, w1, w2, w3].getD t.toNatClampNeg 0) ||| b)).getD ((0 : Int32)).toNatClampNeg 0 = own_ex w0 0 t b) ∧ (([w0, w1, w2, w3].set t.toNatClampNeg (([w0, w1, w2, w3].getD t.toNatClampNeg 0) ||| b)).getD ((1 : Int32)).toNatClampNeg 0 = own_ex w1 1 t b) ∧
    (([w0, w1, w2, w3].set t.toNatClampNeg (([w0, w1, w2, w3].getD t.toNatClampNeg 0) ||| b)).getD ((2 : Int32)).toNatClampNeg 0 = own_ex w2 2 t b) ∧ (([w0, w1, w2, w3].set t.toNatClampNeg (([w0, w1, w2, w3].getD t.toNatClampNeg 0) ||| b)).getD ((3 : Int32)).toNatClampNeg 0 = own_ex w3 3 t b) := by
  rcases own_four h with rfl | rfl | rfl | rfl
  · exact ⟨rfl, rfl, rfl, rfl⟩
  · exact ⟨rfl, rfl, rfl, rfl⟩
  · exact ⟨rfl, rfl, rfl, rfl⟩
  · exact ⟨rfl, rfl, rfl, rfl⟩
theorem d1_0 : decode prog_34_method_4_code 0 = .ok (.aload_n 0, 1) := by decide +kernel
theorem d1_1 : decode prog_34_method_4_code 1 = .ok (.iload_n 1, 1) := by decide +kernel
theorem d1_2 : decode prog_34_method_4_code 2 = .ok (.iload_n 2, 1) := by decide +kernel
theorem d1_3 : decode prog_34_method_4_code 3 = .ok (.bipush 64, 2) := by decide +kernel
theorem d1_5 : decode prog_34_method_4_code 5 = .ok (.idiv, 1) := by decide +kernel
theorem d1_6 : decode prog_34_method_4_code 6 = .ok (.iadd, 1) := by decide +kernel
theorem d1_7 : decode prog_34_method_4_code 7 = .ok (.dup2, 1) := by decide +kernel
theorem d1_8 : decode prog_34_method_4_code 8 = .ok (.laload, 1) := by decide +kernel
theorem d1_9 : decode prog_34_method_4_code 9 = .ok (.lconst 1, 1) := by decide +kernel
theorem d1_10 : decode prog_34_method_4_code 10 = .ok (.iload_n 2, 1) := by decide +kernel
theorem d1_11 : decode prog_34_method_4_code 11 = .ok (.lshl, 1) := by decide +kernel
theorem d1_12 : decode prog_34_method_4_code 12 = .ok (.lor, 1) := by decide +kernel
theorem d1_13 : decode prog_34_method_4_code 13 = .ok (.lastore, 1) := by decide +kernel
theorem d1_14 : decode prog_34_method_4_code 14 = .ok (.return_, 1) := by decide +kernel
theorem pn_1 : plainName "com/example/slotwright/slotwright/instance/CourseSet" = true := by first | (simp [plainName, overriddenIn]; done) | decide +kernel
theorem ef_1 (m : MethodId) (x0 : Addr) (x1 : Int32) (x2 : Int32) : entryFrame m #[(.ref x0), (.int x1), (.int x2)] 3 = mkF m 0 #[.val (.ref x0), .val (.int x1), .val (.int x2)] [] := by first | (simp [entryFrame, mkF, argsToLocals, Value.category]; done) | rfl
def Q1 (Z : State) (a1 : Addr) (p2 : Int32) (p3 : Int32) (xk : ClassId) (xn : Int32) (xs : List Int64) (h0 : Heap) (n0 : Nat) (v : Option Value) (h : Heap) (L : List Loc) : Prop := v = none ∧ Fr n0 L ∧ Keep h0 h [a1] ∧ (Arv Z h a1 xk .long xn ((xs.set ((p2 + (p3 / (64 : Int32)))).toNatClampNeg ((xs.getD ((p2 + (p3 / (64 : Int32)))).toNatClampNeg 0) ||| ((1 : Int64) <<< (p3 &&& 0x3f).toInt64))).map Value.long) (.long (0 : Int64)))
set_option maxRecDepth 65536 in
set_option maxHeartbeats 40000000 in
theorem rm1 (l : Launch) (Z : State) (a0 : Array Value) (hw : ∀ d ∈ tables_1, d.before a0 Z = true) (ws : List Jvm.Cond) (a1 : Addr) (p2 : Int32) (p3 : Int32) (xk : ClassId) (xn : Int32) (xs : List Int64) (h0 : Heap) (n0 : Nat) (Z0 : n0 ≤ h0.size) (g_a1 : n0 ≤ a1) (P0 : Arv Z h0 a1 xk .long xn (xs.map Value.long) (.long (0 : Int64))) (hj0 : ¬ (p2 + (p3 / (64 : Int32))) < 0) (hj1 : (p2 + (p3 / (64 : Int32))) < xn) (hl : ((p2 + (p3 / (64 : Int32)))).toNatClampNeg < xs.length) :
    MetFree l (⟨"com/example/slotwright/slotwright/instance/CourseSet", "add", "([JII)V"⟩ : MethodName) (head1 (Jvm.Cond.code (⟨"com/example/slotwright/slotwright/instance/CourseSet", "add", "([JII)V"⟩ : MethodName) prog_34_method_4_code 3 none :: ws) ({ frames := 0, cells := 0, slots := 0, locals := 0 } : Room)) (fun a U => a = #[(.ref a1), (.int p2), (.int p3)] ∧ Z.Warmed39 U.vm ∧ U.heap = h0) (fun _ _ _ _ _ => True) (fun _ U o U' => ∃ v L, o = .returned v ∧ Q1 Z a1 p2 p3 xk xn xs h0 n0 v U'.heap L ∧ FrameEnd U o U' L ({ frames := 0, cells := 0, slots := 0, locals := 0 } : Room).cells ({ frames := 0, cells := 0, slots := 0, locals := 0 } : Room).slots) := by
  refine MetFree.of_bodySF (plainFor_of_name pn_1) hisR ?_
  intro p e s m args below meth c s₁ Bd hml0 hP hK
  obtain ⟨rfl, hZ, hh⟩ := hP
  have hx := Bd.exec
  have hby := Bd.bytes
  have hml : c.maxLocals = 3 := hml0
  have hown : s.vm.findClass "com/example/slotwright/slotwright/instance/CourseSet" = some m.cls := findClass_of_methodNamed Bd.named
  have hnm := (name_of_methodNamed Bd.named Bd.method).1
  have X0 : Stand p l e ({ frames := 0, cells := 0, slots := 0, locals := 0 } : Room) s m #[(.ref a1), (.int p2), (.int p3)] below meth c s₁ [] 0 0 := Stand.of_body Bd
  have e0 : s₁.heap = h0 := by rw [← hh, Bd.state]; rfl
  have N0 := Fr.nil n0
  suffices G0 : ∀ K : State → Prop, (∀ (n : State) (v : Option Value) (L : List Loc), n.status = .running → Ended n below (.returned v) → Q1 Z a1 p2 p3 xk xn xs h0 n0 v n.heap L → FrameEnd s (.returned v) n L ({ frames := 0, cells := 0, slots := 0, locals := 0 } : Room).cells ({ frames := 0, cells := 0, slots := 0, locals := 0 } : Room).slots → K n) → own_Go p e below K (s₁.setTop (mkF m 0 #[.val (.ref a1), .val (.int p2), .val (.int p3)] [])) by
    obtain ⟨t, st, o, a, b, v, L, e1, q, fe⟩ := G0 (fun n => ∃ o, n.status = .running ∧ Ended n below o ∧ ∃ v L, o = .returned v ∧ Q1 Z a1 p2 p3 xk xn xs h0 n0 v n.heap L ∧ FrameEnd s o n L ({ frames := 0, cells := 0, slots := 0, locals := 0 } : Room).cells ({ frames := 0, cells := 0, slots := 0, locals := 0 } : Room).slots) (fun n v L a b q f => ⟨_, a, b, v, L, rfl, q, f⟩)
    exact ⟨t, o, castTop (ef_1 m a1 p2 p3) st, a, b, v, L, e1, q, fe⟩
  intro K fin
  show own_Go p e below K (s₁.setTop (mkF m 0 #[.val (.ref a1), .val (.int p2), .val (.int p3)] []))
  refine own_st (fun t k => XS.aloadN X0.here hx rfl (hb hby d1_0) rfl rfl k) ?_
  show own_Go p e below K (s₁.setTop (mkF m 1 #[.val (.ref a1), .val (.int p2), .val (.int p3)] [(.ref a1)]))
  refine own_st (fun t k => XS.iloadN X0.here hx rfl (hb hby d1_1) rfl k) ?_
  show own_Go p e below K (s₁.setTop (mkF m 2 #[.val (.ref a1), .val (.int p2), .val (.int p3)] [(.int p2), (.ref a1)]))
  refine own_st (fun t k => XS.iloadN X0.here hx rfl (hb hby d1_2) rfl k) ?_
  show own_Go p e below K (s₁.setTop (mkF m 3 #[.val (.ref a1), .val (.int p2), .val (.int p3)] [(.int p3), (.int p2), (.ref a1)]))
  refine own_st (fun t k => XS.bipush X0.here hx rfl (hb hby d1_3) k) ?_
  show own_Go p e below K (s₁.setTop (mkF m 5 #[.val (.ref a1), .val (.int p2), .val (.int p3)] [(.int (64 : Int32)), (.int p3), (.int p2), (.ref a1)]))
  refine own_st (fun t k => XS.idiv X0.here hx rfl (hb hby d1_5) rfl (by decide) k) ?_
  show own_Go p e below K (s₁.setTop (mkF m 6 #[.val (.ref a1), .val (.int p2), .val (.int p3)] [(.int (p3 / (64 : Int32))), (.int p2), (.ref a1)]))
  refine own_st (fun t k => XS.iadd X0.here hx rfl (hb hby d1_6) rfl k) ?_
  show own_Go p e below K (s₁.setTop (mkF m 7 #[.val (.ref a1), .val (.int p2), .val (.int p3)] [(.int (p2 + (p3 / (64 : Int32)))), (.ref a1)]))
  refine own_st (fun t k => XT.dup2 X0.here hx rfl (hb hby d1_7) rfl rfl rfl k) ?_
  show own_Go p e below K (s₁.setTop (mkF m 8 #[.val (.ref a1), .val (.int p2), .val (.int p3)] [(.int (p2 + (p3 / (64 : Int32)))), (.ref a1), (.int (p2 + (p3 / (64 : Int32)))), (.ref a1)]))
  obtain ⟨cl1, Ar1, qa1, Sa1, Ma1, Ha1, Ga1⟩ := id P0
  have hin1 : ¬ ((p2 + (p3 / (64 : Int32))) < 0 ∨ cl1.slots.size ≤ ((p2 + (p3 / (64 : Int32)))).toNatClampNeg) := inb_of Sa1 ⟨hj0, hj1⟩
  refine own_st (X0.laload hx (j := (p2 + (p3 / (64 : Int32)))) (v := (.long (xs.getD ((p2 + (p3 / (64 : Int32)))).toNatClampNeg 0))) (own_hat e0 Ar1.1) (State.isArrayOf_alike hZ.alike Ar1.2.1) Ar1.2.2 hin1 (Has.at Ha1 hin1 (own_atJ xs _)) (g := (mkF m 8 #[.val (.ref a1), .val (.int p2), .val (.int p3)] [(.int (p2 + (p3 / (64 : Int32)))), (.ref a1), (.int (p2 + (p3 / (64 : Int32)))), (.ref a1)])) rfl rfl (hb hby d1_8)) ?_
  show own_Go p e below K (s₁.setTop (mkF m 9 #[.val (.ref a1), .val (.int p2), .val (.int p3)] [(.long (xs.getD ((p2 + (p3 / (64 : Int32)))).toNatClampNeg 0)), (.int (p2 + (p3 / (64 : Int32)))), (.ref a1)]))
  refine own_st (fun t k => XS.lconst X0.here hx rfl (hb hby d1_9) k) ?_
  show own_Go p e below K (s₁.setTop (mkF m 10 #[.val (.ref a1), .val (.int p2), .val (.int p3)] [(.long (1 : Int64)), (.long (xs.getD ((p2 + (p3 / (64 : Int32)))).toNatClampNeg 0)), (.int (p2 + (p3 / (64 : Int32)))), (.ref a1)]))
  refine own_st (fun t k => XS.iloadN X0.here hx rfl (hb hby d1_10) rfl k) ?_
  show own_Go p e below K (s₁.setTop (mkF m 11 #[.val (.ref a1), .val (.int p2), .val (.int p3)] [(.int p3), (.long (1 : Int64)), (.long (xs.getD ((p2 + (p3 / (64 : Int32)))).toNatClampNeg 0)), (.int (p2 + (p3 / (64 : Int32)))), (.ref a1)]))
  refine own_st (fun t k => XS.lshl X0.here hx rfl (hb hby d1_11) rfl k) ?_
  show own_Go p e below K (s₁.setTop (mkF m 12 #[.val (.ref a1), .val (.int p2), .val (.int p3)] [(.long ((1 : Int64) <<< (p3 &&& 0x3f).toInt64)), (.long (xs.getD ((p2 + (p3 / (64 : Int32)))).toNatClampNeg 0)), (.int (p2 + (p3 / (64 : Int32)))), (.ref a1)]))
  refine own_st (fun t k => XS.lor X0.here hx rfl (hb hby d1_12) rfl k) ?_
  show own_Go p e below K (s₁.setTop (mkF m 13 #[.val (.ref a1), .val (.int p2), .val (.int p3)] [(.long ((xs.getD ((p2 + (p3 / (64 : Int32)))).toNatClampNeg 0) ||| ((1 : Int64) <<< (p3 &&& 0x3f).toInt64))), (.int (p2 + (p3 / (64 : Int32)))), (.ref a1)]))
  obtain ⟨cl2, Ar2, qa2, Sa2, Ma2, Ha2, Ga2⟩ := id P0
  have hin2 : ¬ ((p2 + (p3 / (64 : Int32))) < 0 ∨ cl2.slots.size ≤ ((p2 + (p3 / (64 : Int32)))).toNatClampNeg) := inb_of Sa2 ⟨hj0, hj1⟩
  obtain ⟨T3, h3, X3, e3, W3, st3⟩ := stJ X0 hx hZ e0 Ar2 (j := (p2 + (p3 / (64 : Int32)))) hin2 (g := (mkF m 13 #[.val (.ref a1), .val (.int p2), .val (.int p3)] [(.long ((xs.getD ((p2 + (p3 / (64 : Int32)))).toNatClampNeg 0) ||| ((1 : Int64) <<< (p3 &&& 0x3f).toInt64))), (.int (p2 + (p3 / (64 : Int32)))), (.ref a1)])) rfl rfl (hb hby d1_13)
  have V3 : Arv Z h3 a1 xk .long xn ((xs.set ((p2 + (p3 / (64 : Int32)))).toNatClampNeg ((xs.getD ((p2 + (p3 / (64 : Int32)))).toNatClampNeg 0) ||| ((1 : Int64) <<< (p3 &&& 0x3f).toInt64))).map Value.long) (.long (0 : Int64)) := by
    rw [List.map_set]
    exact Arv.set Ar2 qa2 Sa2 Ma2 Ha2 Ga2 rfl W3 _ rfl (by rw [List.length_map]; exact hl)
  have N3 := Fr.snoc X3 N0 g_a1
  have Z3 : n0 ≤ h3.size := Nat.le_trans Z0 (Keep.of_wr W3).1
  have K3 : Keep h0 h3 [a1] := (Keep.refl h0 [a1]).wr W3 (Or.inl (List.mem_of_getElem? (i := 0) rfl))
  refine own_st st3 ?_
  show own_Go p e below K (T3.setTop (mkF m 14 #[.val (.ref a1), .val (.int p2), .val (.int p3)] []))
  obtain ⟨fs, hr, hrun, hended, hW, hsame⟩ := X3.leave (v := none) (fun _ => rfl)
  refine ⟨_, X3.returnOut hx Bd.returns (hb hby d1_14) hr, fin _ _ _ hrun hended ?_ ⟨⟨_, rfl⟩, hW, hsame.mono (by decide) (by decide)⟩⟩
  show Q1 Z a1 p2 p3 xk xn xs h0 n0 _ T3.heap _
  rw [e3]
  exact ⟨rfl, N3, K3, V3⟩
theorem d2_0 : decode method_2_code 0 = .ok (.iload_n 2, 1) := by decide +kernel
theorem d2_1 : decode method_2_code 1 = .ok (.iload_n 3, 1) := by decide +kernel
theorem d2_2 : decode method_2_code 2 = .ok (.if_icmp .ne 8, 3) := by decide +kernel
theorem d2_5 : decode method_2_code 5 = .ok (.lload_n 0, 1) := by decide +kernel
theorem d2_6 : decode method_2_code 6 = .ok (.lload 4, 2) := by decide +kernel
theorem d2_8 : decode method_2_code 8 = .ok (.lor, 1) := by decide +kernel
theorem d2_9 : decode method_2_code 9 = .ok (.lreturn, 1) := by decide +kernel
theorem d2_10 : decode method_2_code 10 = .ok (.lload_n 0, 1) := by decide +kernel
theorem d2_11 : decode method_2_code 11 = .ok (.lreturn, 1) := by decide +kernel
theorem pn_2 : plainName "com/example/slotwright/slotwright/instance/CourseSetAddPinLaw" = true := by first | (simp [plainName, overriddenIn]; done) | decide +kernel
theorem ef_2 (m : MethodId) (x0 : Int64) (x1 : Int32) (x2 : Int32) (x3 : Int64) : entryFrame m #[(.long x0), (.int x1), (.int x2), (.long x3)] 6 = mkF m 0 #[.val (.long x0), .second, .val (.int x1), .val (.int x2), .val (.long x3), .second] [] := by first | (simp [entryFrame, mkF, argsToLocals, Value.category]; done) | rfl
def Q2 (Z : State) (q1 : Int64) (p2 : Int32) (p3 : Int32) (q4 : Int64) (h0 : Heap) (n0 : Nat) (v : Option Value) (h : Heap) (L : List Loc) : Prop := ∃ (r : Int64), v = some (.long r) ∧ (r = own_ex q1 p2 p3 q4) ∧ Fr n0 L ∧ h = h0
set_option maxRecDepth 65536 in
set_option maxHeartbeats 40000000 in
theorem rm2 (l : Launch) (Z : State) (a0 : Array Value) (hw : ∀ d ∈ tables_1, d.before a0 Z = true) (ws : List Jvm.Cond) (q1 : Int64) (p2 : Int32) (p3 : Int32) (q4 : Int64) (h0 : Heap) (n0 : Nat) (Z0 : n0 ≤ h0.size)  :
    MetFree l (⟨"com/example/slotwright/slotwright/instance/CourseSetAddPinLaw", "expect", "(JIIJ)J"⟩ : MethodName) (head1 (Jvm.Cond.code (⟨"com/example/slotwright/slotwright/instance/CourseSetAddPinLaw", "expect", "(JIIJ)J"⟩ : MethodName) method_2_code 6 (some .long) :: ws) ({ frames := 0, cells := 0, slots := 0, locals := 0 } : Room)) (fun a U => a = #[(.long q1), (.int p2), (.int p3), (.long q4)] ∧ Z.Warmed39 U.vm ∧ U.heap = h0) (fun _ _ _ _ _ => True) (fun _ U o U' => ∃ v L, o = .returned v ∧ Q2 Z q1 p2 p3 q4 h0 n0 v U'.heap L ∧ FrameEnd U o U' L ({ frames := 0, cells := 0, slots := 0, locals := 0 } : Room).cells ({ frames := 0, cells := 0, slots := 0, locals := 0 } : Room).slots) := by
  refine MetFree.of_bodySF (plainFor_of_name pn_2) hisR ?_
  intro p e s m args below meth c s₁ Bd hml0 hP hK
  obtain ⟨rfl, hZ, hh⟩ := hP
  have hx := Bd.exec
  have hby := Bd.bytes
  have hml : c.maxLocals = 6 := hml0
  have hown : s.vm.findClass "com/example/slotwright/slotwright/instance/CourseSetAddPinLaw" = some m.cls := findClass_of_methodNamed Bd.named
  have hnm := (name_of_methodNamed Bd.named Bd.method).1
  have X0 : Stand p l e ({ frames := 0, cells := 0, slots := 0, locals := 0 } : Room) s m #[(.long q1), (.int p2), (.int p3), (.long q4)] below meth c s₁ [] 0 0 := Stand.of_body Bd
  have e0 : s₁.heap = h0 := by rw [← hh, Bd.state]; rfl
  have N0 := Fr.nil n0
  suffices G0 : ∀ K : State → Prop, (∀ (n : State) (v : Option Value) (L : List Loc), n.status = .running → Ended n below (.returned v) → Q2 Z q1 p2 p3 q4 h0 n0 v n.heap L → FrameEnd s (.returned v) n L ({ frames := 0, cells := 0, slots := 0, locals := 0 } : Room).cells ({ frames := 0, cells := 0, slots := 0, locals := 0 } : Room).slots → K n) → own_Go p e below K (s₁.setTop (mkF m 0 #[.val (.long q1), .second, .val (.int p2), .val (.int p3), .val (.long q4), .second] [])) by
    obtain ⟨t, st, o, a, b, v, L, e1, q, fe⟩ := G0 (fun n => ∃ o, n.status = .running ∧ Ended n below o ∧ ∃ v L, o = .returned v ∧ Q2 Z q1 p2 p3 q4 h0 n0 v n.heap L ∧ FrameEnd s o n L ({ frames := 0, cells := 0, slots := 0, locals := 0 } : Room).cells ({ frames := 0, cells := 0, slots := 0, locals := 0 } : Room).slots) (fun n v L a b q f => ⟨_, a, b, v, L, rfl, q, f⟩)
    exact ⟨t, o, castTop (ef_2 m q1 p2 p3 q4) st, a, b, v, L, e1, q, fe⟩
  intro K fin
  show own_Go p e below K (s₁.setTop (mkF m 0 #[.val (.long q1), .second, .val (.int p2), .val (.int p3), .val (.long q4), .second] []))
  refine own_st (fun t k => XS.iloadN X0.here hx rfl (hb hby d2_0) rfl k) ?_
  show own_Go p e below K (s₁.setTop (mkF m 1 #[.val (.long q1), .second, .val (.int p2), .val (.int p3), .val (.long q4), .second] [(.int p2)]))
  refine own_st (fun t k => XS.iloadN X0.here hx rfl (hb hby d2_1) rfl k) ?_
  show own_Go p e below K (s₁.setTop (mkF m 2 #[.val (.long q1), .second, .val (.int p2), .val (.int p3), .val (.long q4), .second] [(.int p3), (.int p2)]))
  by_cases hc2 : p2 = p3
  · refine own_st (fun t k => XS.icmpNo X0.here hx rfl (hb hby d2_2) rfl (teq hc2).2 k) ?_
    show own_Go p e below K (s₁.setTop (mkF m 5 #[.val (.long q1), .second, .val (.int p2), .val (.int p3), .val (.long q4), .second] []))
    refine own_st (fun t k => XS.lloadN X0.here hx rfl (hb hby d2_5) rfl k) ?_
    show own_Go p e below K (s₁.setTop (mkF m 6 #[.val (.long q1), .second, .val (.int p2), .val (.int p3), .val (.long q4), .second] [(.long q1)]))
    refine own_st (fun t k => XS.lload X0.here hx rfl (hb hby d2_6) rfl k) ?_
    show own_Go p e below K (s₁.setTop (mkF m 8 #[.val (.long q1), .second, .val (.int p2), .val (.int p3), .val (.long q4), .second] [(.long q4), (.long q1)]))
    refine own_st (fun t k => XS.lor X0.here hx rfl (hb hby d2_8) rfl k) ?_
    show own_Go p e below K (s₁.setTop (mkF m 9 #[.val (.long q1), .second, .val (.int p2), .val (.int p3), .val (.long q4), .second] [(.long (q1 ||| q4))]))
    obtain ⟨fs, hr, hrun, hended, hW, hsame⟩ := X0.leave (v := some (.long (q1 ||| q4))) (fun h => by rw [Bd.returns] at h; cases h)
    refine ⟨_, X0.lreturnOut hx Bd.returns (hb hby d2_9) hr, fin _ _ _ hrun hended ?_ ⟨⟨_, rfl⟩, hW, hsame.mono (by decide) (by decide)⟩⟩
    show Q2 Z q1 p2 p3 q4 h0 n0 _ s₁.heap _
    rw [e0]
    exact ⟨_, rfl, (if_pos hc2).symm, N0, rfl⟩
  refine own_st (fun t k => XS.icmpYes X0.here hx rfl (pc0 := 2) (pc' := 10) rfl (hb hby d2_2) rfl (feq hc2).2 (by decide) (by decide) k) ?_
  show own_Go p e below K (s₁.setTop (mkF m 10 #[.val (.long q1), .second, .val (.int p2), .val (.int p3), .val (.long q4), .second] []))
  refine own_st (fun t k => XS.lloadN X0.here hx rfl (hb hby d2_10) rfl k) ?_
  show own_Go p e below K (s₁.setTop (mkF m 11 #[.val (.long q1), .second, .val (.int p2), .val (.int p3), .val (.long q4), .second] [(.long q1)]))
  obtain ⟨fs, hr, hrun, hended, hW, hsame⟩ := X0.leave (v := some (.long q1)) (fun h => by rw [Bd.returns] at h; cases h)
  refine ⟨_, X0.lreturnOut hx Bd.returns (hb hby d2_11) hr, fin _ _ _ hrun hended ?_ ⟨⟨_, rfl⟩, hW, hsame.mono (by decide) (by decide)⟩⟩
  show Q2 Z q1 p2 p3 q4 h0 n0 _ s₁.heap _
  rw [e0]
  exact ⟨_, rfl, (if_neg hc2).symm, N0, rfl⟩
theorem pn_0 : plainName "com/example/slotwright/slotwright/instance/CourseSetAddPinLaw" = true := by first | (simp [plainName, overriddenIn]; done) | decide +kernel
theorem pd_0_0 : parseMethodDescriptor "([JII)V" = some ⟨[(.array .long), .int, .int], none⟩ := by decide +kernel
theorem pd_0_1 : parseMethodDescriptor "(JIIJ)J" = some ⟨[.long, .int, .int, .long], some .long⟩ := by decide +kernel
theorem ef_0 (m : MethodId) (x0 : Int64) (x1 : Int64) (x2 : Int64) (x3 : Int64) (x4 : Int32) (x5 : Int32) : entryFrame m #[(.long x0), (.long x1), (.long x2), (.long x3), (.int x4), (.int x5)] maxLocals = mkF m 0 #[.val (.long x0), .second, .val (.long x1), .second, .val (.long x2), .second, .val (.long x3), .second, .val (.int x4), .val (.int x5), .unset, .unset, .unset, .unset, .unset, .unset] [] := by first | (simp [entryFrame, mkF, argsToLocals, Value.category, maxLocals]; done) | rfl
def Q0 (Z : State) (q1 : Int64) (q2 : Int64) (q3 : Int64) (q4 : Int64) (p5 : Int32) (p6 : Int32) (h0 : Heap) (n0 : Nat) (v : Option Value) (h : Heap) (L : List Loc) : Prop := v = some (.int 1) ∧ Fr n0 L
set_option maxRecDepth 65536 in
set_option maxHeartbeats 40000000 in
theorem rm0 (l : Launch) (Z : State) (a0 : Array Value) (hw : ∀ d ∈ tables_1, d.before a0 Z = true) (ws : List Jvm.Cond) (q1 : Int64) (q2 : Int64) (q3 : Int64) (q4 : Int64) (p5 : Int32) (p6 : Int32) (h0 : Heap) (n0 : Nat) (Z0 : n0 ≤ h0.size)  :
    MetFree l x (head1 (Jvm.Cond.code x code maxLocals ret :: ws) room_1) (fun a U => a = #[(.long q1), (.long q2), (.long q3), (.long q4), (.int p5), (.int p6)] ∧ Z.Warmed39 U.vm ∧ U.heap = h0) (fun _ _ _ _ _ => True) (fun _ U o U' => ∃ v L, o = .returned v ∧ Q0 Z q1 q2 q3 q4 p5 p6 h0 n0 v U'.heap L ∧ FrameEnd U o U' L 1 4) := by
  refine MetFree.of_bodySF (plainFor_of_name pn_0) hisR ?_
  intro p e s m args below meth c s₁ Bd hml0 hP hK
  obtain ⟨rfl, hZ, hh⟩ := hP
  have hx := Bd.exec
  have hby := Bd.bytes
  have hml : c.maxLocals = 16 := hml0
  have hown : s.vm.findClass "com/example/slotwright/slotwright/instance/CourseSetAddPinLaw" = some m.cls := findClass_of_methodNamed Bd.named
  have hnm := (name_of_methodNamed Bd.named Bd.method).1
  have X0 : Stand p l e room_1 s m #[(.long q1), (.long q2), (.long q3), (.long q4), (.int p5), (.int p6)] below meth c s₁ [] 0 0 := Stand.of_body Bd
  have e0 : s₁.heap = h0 := by rw [← hh, Bd.state]; rfl
  have N0 := Fr.nil n0
  suffices G0 : ∀ K : State → Prop, (∀ (n : State) (v : Option Value) (L : List Loc), n.status = .running → Ended n below (.returned v) → Q0 Z q1 q2 q3 q4 p5 p6 h0 n0 v n.heap L → FrameEnd s (.returned v) n L 1 4 → K n) → own_Go p e below K (s₁.setTop (mkF m 0 #[.val (.long q1), .second, .val (.long q2), .second, .val (.long q3), .second, .val (.long q4), .second, .val (.int p5), .val (.int p6), .unset, .unset, .unset, .unset, .unset, .unset] [])) by
    obtain ⟨t, st, o, a, b, v, L, e1, q, fe⟩ := G0 (fun n => ∃ o, n.status = .running ∧ Ended n below o ∧ ∃ v L, o = .returned v ∧ Q0 Z q1 q2 q3 q4 p5 p6 h0 n0 v n.heap L ∧ FrameEnd s o n L 1 4) (fun n v L a b q f => ⟨_, a, b, v, L, rfl, q, f⟩)
    exact ⟨t, o, castTop (ef_0 m q1 q2 q3 q4 p5 p6) st, a, b, v, L, e1, q, fe⟩
  intro K fin
  show own_Go p e below K (s₁.setTop (mkF m 0 #[.val (.long q1), .second, .val (.long q2), .second, .val (.long q3), .second, .val (.long q4), .second, .val (.int p5), .val (.int p6), .unset, .unset, .unset, .unset, .unset, .unset] []))
  refine own_st (fun t k => XS.iload X0.here hx rfl (hb hby at_0) rfl k) ?_
  show own_Go p e below K (s₁.setTop (mkF m 2 #[.val (.long q1), .second, .val (.long q2), .second, .val (.long q3), .second, .val (.long q4), .second, .val (.int p5), .val (.int p6), .unset, .unset, .unset, .unset, .unset, .unset] [(.int p5)]))
  refine own_st (fun t k => XS.iconst X0.here hx rfl (hb hby at_2) k) ?_
  show own_Go p e below K (s₁.setTop (mkF m 3 #[.val (.long q1), .second, .val (.long q2), .second, .val (.long q3), .second, .val (.long q4), .second, .val (.int p5), .val (.int p6), .unset, .unset, .unset, .unset, .unset, .unset] [(.int (3 : Int32)), (.int p5)]))
  refine own_st (fun t k => XS.iand X0.here hx rfl (hb hby at_3) rfl k) ?_
  show own_Go p e below K (s₁.setTop (mkF m 4 #[.val (.long q1), .second, .val (.long q2), .second, .val (.long q3), .second, .val (.long q4), .second, .val (.int p5), .val (.int p6), .unset, .unset, .unset, .unset, .unset, .unset] [(.int (p5 &&& (3 : Int32)))]))
  generalize hia : (p5 &&& (3 : Int32)) = ia
  show own_Go p e below K (s₁.setTop (mkF m 4 #[.val (.long q1), .second, .val (.long q2), .second, .val (.long q3), .second, .val (.long q4), .second, .val (.int p5), .val (.int p6), .unset, .unset, .unset, .unset, .unset, .unset] [(.int ia)]))
  have Bi := own_ia hia
  refine own_st (fun t k => XS.istore X0.here hx rfl (hb hby at_4) rfl (l' := #[.val (.long q1), .second, .val (.long q2), .second, .val (.long q3), .second, .val (.long q4), .second, .val (.int p5), .val (.int p6), .val (.int ia), .unset, .unset, .unset, .unset, .unset]) rfl k) ?_
  show own_Go p e below K (s₁.setTop (mkF m 6 #[.val (.long q1), .second, .val (.long q2), .second, .val (.long q3), .second, .val (.long q4), .second, .val (.int p5), .val (.int p6), .val (.int ia), .unset, .unset, .unset, .unset, .unset] []))
  refine own_st (fun t k => XS.iload X0.here hx rfl (hb hby at_6) rfl k) ?_
  show own_Go p e below K (s₁.setTop (mkF m 8 #[.val (.long q1), .second, .val (.long q2), .second, .val (.long q3), .second, .val (.long q4), .second, .val (.int p5), .val (.int p6), .val (.int ia), .unset, .unset, .unset, .unset, .unset] [(.int p6)]))
  refine own_st (X0.ldcInt hx hown (mvT hZ (hw _ (List.mem_of_getElem? (i := 0) rfl))) (g := (mkF m 8 #[.val (.long q1), .second, .val (.long q2), .second, .val (.long q3), .second, .val (.long q4), .second, .val (.int p5), .val (.int p6), .val (.int ia), .unset, .unset, .unset, .unset, .unset] [(.int p6)])) rfl (hb hby at_8)) ?_
  show own_Go p e below K (s₁.setTop (mkF m 10 #[.val (.long q1), .second, .val (.long q2), .second, .val (.long q3), .second, .val (.long q4), .second, .val (.int p5), .val (.int p6), .val (.int ia), .unset, .unset, .unset, .unset, .unset] [(.int (2147483647 : Int32)), (.int p6)]))
  refine own_st (fun t k => XS.iand X0.here hx rfl (hb hby at_10) rfl k) ?_
  show own_Go p e below K (s₁.setTop (mkF m 11 #[.val (.long q1), .second, .val (.long q2), .second, .val (.long q3), .second, .val (.long q4), .second, .val (.int p5), .val (.int p6), .val (.int ia), .unset, .unset, .unset, .unset, .unset] [(.int (p6 &&& (2147483647 : Int32)))]))
  refine own_st (fun t k => XS.iconst X0.here hx rfl (hb hby at_11) k) ?_
  show own_Go p e below K (s₁.setTop (mkF m 12 #[.val (.long q1), .second, .val (.long q2), .second, .val (.long q3), .second, .val (.long q4), .second, .val (.int p5), .val (.int p6), .val (.int ia), .unset, .unset, .unset, .unset, .unset] [(.int (4 : Int32)), (.int (p6 &&& (2147483647 : Int32)))]))
  refine own_st (fun t k => XS.iload X0.here hx rfl (hb hby at_12) rfl k) ?_
  show own_Go p e below K (s₁.setTop (mkF m 14 #[.val (.long q1), .second, .val (.long q2), .second, .val (.long q3), .second, .val (.long q4), .second, .val (.int p5), .val (.int p6), .val (.int ia), .unset, .unset, .unset, .unset, .unset] [(.int ia), (.int (4 : Int32)), (.int (p6 &&& (2147483647 : Int32)))]))
  refine own_st (fun t k => XS.isub X0.here hx rfl (hb hby at_14) rfl k) ?_
  show own_Go p e below K (s₁.setTop (mkF m 15 #[.val (.long q1), .second, .val (.long q2), .second, .val (.long q3), .second, .val (.long q4), .second, .val (.int p5), .val (.int p6), .val (.int ia), .unset, .unset, .unset, .unset, .unset] [(.int ((4 : Int32) - ia)), (.int (p6 &&& (2147483647 : Int32)))]))
  refine own_st (fun t k => XS.bipush X0.here hx rfl (hb hby at_15) k) ?_
  show own_Go p e below K (s₁.setTop (mkF m 17 #[.val (.long q1), .second, .val (.long q2), .second, .val (.long q3), .second, .val (.long q4), .second, .val (.int p5), .val (.int p6), .val (.int ia), .unset, .unset, .unset, .unset, .unset] [(.int (64 : Int32)), (.int ((4 : Int32) - ia)), (.int (p6 &&& (2147483647 : Int32)))]))
  refine own_st (fun t k => XS.imul X0.here hx rfl (hb hby at_17) rfl k) ?_
  show own_Go p e below K (s₁.setTop (mkF m 18 #[.val (.long q1), .second, .val (.long q2), .second, .val (.long q3), .second, .val (.long q4), .second, .val (.int p5), .val (.int p6), .val (.int ia), .unset, .unset, .unset, .unset, .unset] [(.int (((4 : Int32) - ia) * (64 : Int32))), (.int (p6 &&& (2147483647 : Int32)))]))
  refine own_st (fun t k => iremM X0 hx rfl (hb hby at_18) rfl (own_nz Bi) k) ?_
  show own_Go p e below K (s₁.setTop (mkF m 19 #[.val (.long q1), .second, .val (.long q2), .second, .val (.long q3), .second, .val (.long q4), .second, .val (.int p5), .val (.int p6), .val (.int ia), .unset, .unset, .unset, .unset, .unset] [(.int ((p6 &&& (2147483647 : Int32)) % (((4 : Int32) - ia) * (64 : Int32))))]))
  generalize hic : ((p6 &&& (2147483647 : Int32)) % (((4 : Int32) - ia) * (64 : Int32))) = ic
  show own_Go p e below K (s₁.setTop (mkF m 19 #[.val (.long q1), .second, .val (.long q2), .second, .val (.long q3), .second, .val (.long q4), .second, .val (.int p5), .val (.int p6), .val (.int ia), .unset, .unset, .unset, .unset, .unset] [(.int ic)]))
  have Bc := own_ic Bi hic
  have Bt := own_tg Bi Bc
  refine own_st (fun t k => XS.istore X0.here hx rfl (hb hby at_19) rfl (l' := #[.val (.long q1), .second, .val (.long q2), .second, .val (.long q3), .second, .val (.long q4), .second, .val (.int p5), .val (.int p6), .val (.int ia), .val (.int ic), .unset, .unset, .unset, .unset]) rfl k) ?_
  show own_Go p e below K (s₁.setTop (mkF m 21 #[.val (.long q1), .second, .val (.long q2), .second, .val (.long q3), .second, .val (.long q4), .second, .val (.int p5), .val (.int p6), .val (.int ia), .val (.int ic), .unset, .unset, .unset, .unset] []))
  refine own_st (fun t k => XS.iconst X0.here hx rfl (hb hby at_21) k) ?_
  show own_Go p e below K (s₁.setTop (mkF m 22 #[.val (.long q1), .second, .val (.long q2), .second, .val (.long q3), .second, .val (.long q4), .second, .val (.int p5), .val (.int p6), .val (.int ia), .val (.int ic), .unset, .unset, .unset, .unset] [(.int (4 : Int32))]))
  obtain ⟨T1, h1, k1, X1, e1, E1, A1, st1⟩ := newP X0 hx hZ (hw _ (List.mem_of_getElem? (i := 1) rfl)) e0 (g := (mkF m 22 #[.val (.long q1), .second, .val (.long q2), .second, .val (.long q3), .second, .val (.long q4), .second, .val (.int p5), .val (.int p6), .val (.int ia), .val (.int ic), .unset, .unset, .unset, .unset] [(.int (4 : Int32))])) rfl (hb hby at_22) rfl (by decide) (cap := 4) (by decide) (by decide) (by decide) (by decide)
  obtain ⟨b1, g1⟩ : ∃ z, z = h0.size := ⟨_, rfl⟩
  rw [← g1] at A1 st1
  have g_b1 : n0 ≤ b1 := Nat.le_trans Z0 (Nat.le_of_eq g1.symm)
  have V1 : Arv Z h1 b1 k1 .long (4 : Int32) [(.long (0 : Int64)), (.long (0 : Int64)), (.long (0 : Int64)), (.long (0 : Int64))] (.long (0 : Int64)) := (Arv.new A1 (by decide)).pad (pad_rep [] (.long (0 : Int64)) 4)
  have Z1 : n0 ≤ h1.size := Nat.le_trans Z0 E1.1
  refine own_st st1 ?_
  show own_Go p e below K (T1.setTop (mkF m 24 #[.val (.long q1), .second, .val (.long q2), .second, .val (.long q3), .second, .val (.long q4), .second, .val (.int p5), .val (.int p6), .val (.int ia), .val (.int ic), .unset, .unset, .unset, .unset] [(.ref b1)]))
  refine own_st (fun t k => XS.dup X1.here hx rfl (hb hby at_24) rfl rfl k) ?_
  show own_Go p e below K (T1.setTop (mkF m 25 #[.val (.long q1), .second, .val (.long q2), .second, .val (.long q3), .second, .val (.long q4), .second, .val (.int p5), .val (.int p6), .val (.int ia), .val (.int ic), .unset, .unset, .unset, .unset] [(.ref b1), (.ref b1)]))
  refine own_st (fun t k => XS.iconst X1.here hx rfl (hb hby at_25) k) ?_
  show own_Go p e below K (T1.setTop (mkF m 26 #[.val (.long q1), .second, .val (.long q2), .second, .val (.long q3), .second, .val (.long q4), .second, .val (.int p5), .val (.int p6), .val (.int ia), .val (.int ic), .unset, .unset, .unset, .unset] [(.int (0 : Int32)), (.ref b1), (.ref b1)]))
  refine own_st (fun t k => XS.lloadN X1.here hx rfl (hb hby at_26) rfl k) ?_
  show own_Go p e below K (T1.setTop (mkF m 27 #[.val (.long q1), .second, .val (.long q2), .second, .val (.long q3), .second, .val (.long q4), .second, .val (.int p5), .val (.int p6), .val (.int ia), .val (.int ic), .unset, .unset, .unset, .unset] [(.long q1), (.int (0 : Int32)), (.ref b1), (.ref b1)]))
  obtain ⟨cl2, Ar2, qa2, Sa2, Ma2, Ha2, Ga2⟩ := id V1
  have hin2 : ¬ ((0 : Int32) < 0 ∨ cl2.slots.size ≤ ((0 : Int32)).toNatClampNeg) := inb_of Sa2 ⟨by decide, by decide⟩
  obtain ⟨T3, h3, X3, e3, W3, st3⟩ := stJ X1 hx hZ e1 Ar2 (j := (0 : Int32)) hin2 (g := (mkF m 27 #[.val (.long q1), .second, .val (.long q2), .second, .val (.long q3), .second, .val (.long q4), .second, .val (.int p5), .val (.int p6), .val (.int ia), .val (.int ic), .unset, .unset, .unset, .unset] [(.long q1), (.int (0 : Int32)), (.ref b1), (.ref b1)])) rfl rfl (hb hby at_27)
  have V3 : Arv Z h3 b1 k1 .long (4 : Int32) [(.long q1), (.long (0 : Int64)), (.long (0 : Int64)), (.long (0 : Int64))] (.long (0 : Int64)) := Arv.set Ar2 qa2 Sa2 Ma2 Ha2 Ga2 rfl W3 0 rfl (Nat.le_of_ble_eq_true rfl)
  have N3 := Fr.snoc X3 N0 g_b1
  have Z3 : n0 ≤ h3.size := Nat.le_trans Z1 (Keep.of_wr W3).1
  refine own_st st3 ?_
  show own_Go p e below K (T3.setTop (mkF m 28 #[.val (.long q1), .second, .val (.long q2), .second, .val (.long q3), .second, .val (.long q4), .second, .val (.int p5), .val (.int p6), .val (.int ia), .val (.int ic), .unset, .unset, .unset, .unset] [(.ref b1)]))
  refine own_st (fun t k => XS.dup X3.here hx rfl (hb hby at_28) rfl rfl k) ?_
  show own_Go p e below K (T3.setTop (mkF m 29 #[.val (.long q1), .second, .val (.long q2), .second, .val (.long q3), .second, .val (.long q4), .second, .val (.int p5), .val (.int p6), .val (.int ia), .val (.int ic), .unset, .unset, .unset, .unset] [(.ref b1), (.ref b1)]))
  refine own_st (fun t k => XS.iconst X3.here hx rfl (hb hby at_29) k) ?_
  show own_Go p e below K (T3.setTop (mkF m 30 #[.val (.long q1), .second, .val (.long q2), .second, .val (.long q3), .second, .val (.long q4), .second, .val (.int p5), .val (.int p6), .val (.int ia), .val (.int ic), .unset, .unset, .unset, .unset] [(.int (1 : Int32)), (.ref b1), (.ref b1)]))
  refine own_st (fun t k => XS.lloadN X3.here hx rfl (hb hby at_30) rfl k) ?_
  show own_Go p e below K (T3.setTop (mkF m 31 #[.val (.long q1), .second, .val (.long q2), .second, .val (.long q3), .second, .val (.long q4), .second, .val (.int p5), .val (.int p6), .val (.int ia), .val (.int ic), .unset, .unset, .unset, .unset] [(.long q2), (.int (1 : Int32)), (.ref b1), (.ref b1)]))
  obtain ⟨cl4, Ar4, qa4, Sa4, Ma4, Ha4, Ga4⟩ := id V3
  have hin4 : ¬ ((1 : Int32) < 0 ∨ cl4.slots.size ≤ ((1 : Int32)).toNatClampNeg) := inb_of Sa4 ⟨by decide, by decide⟩
  obtain ⟨T5, h5, X5, e5, W5, st5⟩ := stJ X3 hx hZ e3 Ar4 (j := (1 : Int32)) hin4 (g := (mkF m 31 #[.val (.long q1), .second, .val (.long q2), .second, .val (.long q3), .second, .val (.long q4), .second, .val (.int p5), .val (.int p6), .val (.int ia), .val (.int ic), .unset, .unset, .unset, .unset] [(.long q2), (.int (1 : Int32)), (.ref b1), (.ref b1)])) rfl rfl (hb hby at_31)
  have V5 : Arv Z h5 b1 k1 .long (4 : Int32) [(.long q1), (.long q2), (.long (0 : Int64)), (.long (0 : Int64))] (.long (0 : Int64)) := Arv.set Ar4 qa4 Sa4 Ma4 Ha4 Ga4 rfl W5 1 rfl (Nat.le_of_ble_eq_true rfl)
  have N5 := Fr.snoc X5 N3 g_b1
  have Z5 : n0 ≤ h5.size := Nat.le_trans Z3 (Keep.of_wr W5).1
  refine own_st st5 ?_
  show own_Go p e below K (T5.setTop (mkF m 32 #[.val (.long q1), .second, .val (.long q2), .second, .val (.long q3), .second, .val (.long q4), .second, .val (.int p5), .val (.int p6), .val (.int ia), .val (.int ic), .unset, .unset, .unset, .unset] [(.ref b1)]))
  refine own_st (fun t k => XS.dup X5.here hx rfl (hb hby at_32) rfl rfl k) ?_
  show own_Go p e below K (T5.setTop (mkF m 33 #[.val (.long q1), .second, .val (.long q2), .second, .val (.long q3), .second, .val (.long q4), .second, .val (.int p5), .val (.int p6), .val (.int ia), .val (.int ic), .unset, .unset, .unset, .unset] [(.ref b1), (.ref b1)]))
  refine own_st (fun t k => XS.iconst X5.here hx rfl (hb hby at_33) k) ?_
  show own_Go p e below K (T5.setTop (mkF m 34 #[.val (.long q1), .second, .val (.long q2), .second, .val (.long q3), .second, .val (.long q4), .second, .val (.int p5), .val (.int p6), .val (.int ia), .val (.int ic), .unset, .unset, .unset, .unset] [(.int (2 : Int32)), (.ref b1), (.ref b1)]))
  refine own_st (fun t k => XS.lload X5.here hx rfl (hb hby at_34) rfl k) ?_
  show own_Go p e below K (T5.setTop (mkF m 36 #[.val (.long q1), .second, .val (.long q2), .second, .val (.long q3), .second, .val (.long q4), .second, .val (.int p5), .val (.int p6), .val (.int ia), .val (.int ic), .unset, .unset, .unset, .unset] [(.long q3), (.int (2 : Int32)), (.ref b1), (.ref b1)]))
  obtain ⟨cl6, Ar6, qa6, Sa6, Ma6, Ha6, Ga6⟩ := id V5
  have hin6 : ¬ ((2 : Int32) < 0 ∨ cl6.slots.size ≤ ((2 : Int32)).toNatClampNeg) := inb_of Sa6 ⟨by decide, by decide⟩
  obtain ⟨T7, h7, X7, e7, W7, st7⟩ := stJ X5 hx hZ e5 Ar6 (j := (2 : Int32)) hin6 (g := (mkF m 36 #[.val (.long q1), .second, .val (.long q2), .second, .val (.long q3), .second, .val (.long q4), .second, .val (.int p5), .val (.int p6), .val (.int ia), .val (.int ic), .unset, .unset, .unset, .unset] [(.long q3), (.int (2 : Int32)), (.ref b1), (.ref b1)])) rfl rfl (hb hby at_36)
  have V7 : Arv Z h7 b1 k1 .long (4 : Int32) [(.long q1), (.long q2), (.long q3), (.long (0 : Int64))] (.long (0 : Int64)) := Arv.set Ar6 qa6 Sa6 Ma6 Ha6 Ga6 rfl W7 2 rfl (Nat.le_of_ble_eq_true rfl)
  have N7 := Fr.snoc X7 N5 g_b1
  have Z7 : n0 ≤ h7.size := Nat.le_trans Z5 (Keep.of_wr W7).1
  refine own_st st7 ?_
  show own_Go p e below K (T7.setTop (mkF m 37 #[.val (.long q1), .second, .val (.long q2), .second, .val (.long q3), .second, .val (.long q4), .second, .val (.int p5), .val (.int p6), .val (.int ia), .val (.int ic), .unset, .unset, .unset, .unset] [(.ref b1)]))
  refine own_st (fun t k => XS.dup X7.here hx rfl (hb hby at_37) rfl rfl k) ?_
  show own_Go p e below K (T7.setTop (mkF m 38 #[.val (.long q1), .second, .val (.long q2), .second, .val (.long q3), .second, .val (.long q4), .second, .val (.int p5), .val (.int p6), .val (.int ia), .val (.int ic), .unset, .unset, .unset, .unset] [(.ref b1), (.ref b1)]))
  refine own_st (fun t k => XS.iconst X7.here hx rfl (hb hby at_38) k) ?_
  show own_Go p e below K (T7.setTop (mkF m 39 #[.val (.long q1), .second, .val (.long q2), .second, .val (.long q3), .second, .val (.long q4), .second, .val (.int p5), .val (.int p6), .val (.int ia), .val (.int ic), .unset, .unset, .unset, .unset] [(.int (3 : Int32)), (.ref b1), (.ref b1)]))
  refine own_st (fun t k => XS.lload X7.here hx rfl (hb hby at_39) rfl k) ?_
  show own_Go p e below K (T7.setTop (mkF m 41 #[.val (.long q1), .second, .val (.long q2), .second, .val (.long q3), .second, .val (.long q4), .second, .val (.int p5), .val (.int p6), .val (.int ia), .val (.int ic), .unset, .unset, .unset, .unset] [(.long q4), (.int (3 : Int32)), (.ref b1), (.ref b1)]))
  obtain ⟨cl8, Ar8, qa8, Sa8, Ma8, Ha8, Ga8⟩ := id V7
  have hin8 : ¬ ((3 : Int32) < 0 ∨ cl8.slots.size ≤ ((3 : Int32)).toNatClampNeg) := inb_of Sa8 ⟨by decide, by decide⟩
  obtain ⟨T9, h9, X9, e9, W9, st9⟩ := stJ X7 hx hZ e7 Ar8 (j := (3 : Int32)) hin8 (g := (mkF m 41 #[.val (.long q1), .second, .val (.long q2), .second, .val (.long q3), .second, .val (.long q4), .second, .val (.int p5), .val (.int p6), .val (.int ia), .val (.int ic), .unset, .unset, .unset, .unset] [(.long q4), (.int (3 : Int32)), (.ref b1), (.ref b1)])) rfl rfl (hb hby at_41)
  have V9 : Arv Z h9 b1 k1 .long (4 : Int32) [(.long q1), (.long q2), (.long q3), (.long q4)] (.long (0 : Int64)) := Arv.set Ar8 qa8 Sa8 Ma8 Ha8 Ga8 rfl W9 3 rfl (Nat.le_of_ble_eq_true rfl)
  have N9 := Fr.snoc X9 N7 g_b1
  have Z9 : n0 ≤ h9.size := Nat.le_trans Z7 (Keep.of_wr W9).1
  refine own_st st9 ?_
  show own_Go p e below K (T9.setTop (mkF m 42 #[.val (.long q1), .second, .val (.long q2), .second, .val (.long q3), .second, .val (.long q4), .second, .val (.int p5), .val (.int p6), .val (.int ia), .val (.int ic), .unset, .unset, .unset, .unset] [(.ref b1)]))
  refine own_st (fun t k => XS.astore X9.here hx rfl (hb hby at_42) rfl rfl (l' := #[.val (.long q1), .second, .val (.long q2), .second, .val (.long q3), .second, .val (.long q4), .second, .val (.int p5), .val (.int p6), .val (.int ia), .val (.int ic), .val (.ref b1), .unset, .unset, .unset]) rfl k) ?_
  show own_Go p e below K (T9.setTop (mkF m 44 #[.val (.long q1), .second, .val (.long q2), .second, .val (.long q3), .second, .val (.long q4), .second, .val (.int p5), .val (.int p6), .val (.int ia), .val (.int ic), .val (.ref b1), .unset, .unset, .unset] []))
  refine own_st (fun t k => XS.aload X9.here hx rfl (hb hby at_44) rfl rfl k) ?_
  show own_Go p e below K (T9.setTop (mkF m 46 #[.val (.long q1), .second, .val (.long q2), .second, .val (.long q3), .second, .val (.long q4), .second, .val (.int p5), .val (.int p6), .val (.int ia), .val (.int ic), .val (.ref b1), .unset, .unset, .unset] [(.ref b1)]))
  refine own_st (fun t k => XS.iload X9.here hx rfl (hb hby at_46) rfl k) ?_
  show own_Go p e below K (T9.setTop (mkF m 48 #[.val (.long q1), .second, .val (.long q2), .second, .val (.long q3), .second, .val (.long q4), .second, .val (.int p5), .val (.int p6), .val (.int ia), .val (.int ic), .val (.ref b1), .unset, .unset, .unset] [(.int ia), (.ref b1)]))
  refine own_st (fun t k => XS.iload X9.here hx rfl (hb hby at_48) rfl k) ?_
  show own_Go p e below K (T9.setTop (mkF m 50 #[.val (.long q1), .second, .val (.long q2), .second, .val (.long q3), .second, .val (.long q4), .second, .val (.int p5), .val (.int p6), .val (.int ia), .val (.int ic), .val (.ref b1), .unset, .unset, .unset] [(.int ic), (.int ia), (.ref b1)]))
  obtain ⟨_, _, ⟨T10, L10, k10, n10⟩, -, X10, ⟨Lc10, hQ10, l10, y10, z10⟩, st10⟩ := Jvm.LawKit.callS X9 hx (y := (⟨"com/example/slotwright/slotwright/instance/CourseSet", "add", "([JII)V"⟩ : MethodName)) hown (mvT hZ (hw _ (List.mem_of_getElem? (i := 2) rfl))) (mvT hZ (hw _ (List.mem_of_getElem? (i := 3) rfl))) (mvT hZ (hw _ (List.mem_of_getElem? (i := 4) rfl))) (mvT hZ (hw _ (List.mem_of_getElem? (i := 5) rfl))) (by decide) (backOf (W := 0) (rm1 l Z a0 hw [] b1 ia ic (k1) ((4 : Int32)) ([q1, q2, q3, q4]) h9 n0 Z9 g_b1 V9 (own_nlt (by rw [Bt]; show (0 : Int) ≤ _; omega)) (own_lt (by rw [Bt]; show _ < (4 : Int); omega)) (own_hl Bi Bc)) hZ (hw _ (List.mem_of_getElem? (i := 5) rfl)) (hw _ (List.mem_of_getElem? (i := 4) rfl)) (by decide) (by decide)) (g := (mkF m 50 #[.val (.long q1), .second, .val (.long q2), .second, .val (.long q3), .second, .val (.long q4), .second, .val (.int p5), .val (.int p6), .val (.int ia), .val (.int ic), .val (.ref b1), .unset, .unset, .unset] [(.int ic), (.int ia), (.ref b1)])) rfl (by rw [hml]; rfl) (argsL := [(.ref b1), (.int ia), (.int ic)]) (rest := []) (lenOf pd_0_0 rfl) rfl (by show 2 * 0 + _ ≤ _; exact Nat.le_of_eq rfl) (hb hby at_50) (fun _ _ => ⟨rfl, e9, (by decide : 1 + 0 ≤ _), (by decide : 4 + 0 ≤ _)⟩)
  dsimp only [Pt.U, Pt.locs, Pt.cells, Pt.slots] at X10 l10 y10 z10 st10 hQ10
  subst l10 y10 z10
  obtain ⟨rfl, N10q, Kq10, p10_0⟩ := hQ10
  have N10 := Fr.app N9 N10q
  have Z10 : n0 ≤ T10.heap.size := Nat.le_trans Z9 Kq10.1
  refine own_st st10 ?_
  show own_Go p e below K (T10.setTop (mkF m 53 #[.val (.long q1), .second, .val (.long q2), .second, .val (.long q3), .second, .val (.long q4), .second, .val (.int p5), .val (.int p6), .val (.int ia), .val (.int ic), .val (.ref b1), .unset, .unset, .unset] []))
  refine own_st (fun t k => XS.iload X10.here hx rfl (hb hby at_53) rfl k) ?_
  show own_Go p e below K (T10.setTop (mkF m 55 #[.val (.long q1), .second, .val (.long q2), .second, .val (.long q3), .second, .val (.long q4), .second, .val (.int p5), .val (.int p6), .val (.int ia), .val (.int ic), .val (.ref b1), .unset, .unset, .unset] [(.int ia)]))
  refine own_st (fun t k => XS.iload X10.here hx rfl (hb hby at_55) rfl k) ?_
  show own_Go p e below K (T10.setTop (mkF m 57 #[.val (.long q1), .second, .val (.long q2), .second, .val (.long q3), .second, .val (.long q4), .second, .val (.int p5), .val (.int p6), .val (.int ia), .val (.int ic), .val (.ref b1), .unset, .unset, .unset] [(.int ic), (.int ia)]))
  refine own_st (fun t k => XS.bipush X10.here hx rfl (hb hby at_57) k) ?_
  show own_Go p e below K (T10.setTop (mkF m 59 #[.val (.long q1), .second, .val (.long q2), .second, .val (.long q3), .second, .val (.long q4), .second, .val (.int p5), .val (.int p6), .val (.int ia), .val (.int ic), .val (.ref b1), .unset, .unset, .unset] [(.int (6 : Int32)), (.int ic), (.int ia)]))
  refine own_st (fun t k => XS.ishr X10.here hx rfl (hb hby at_59) rfl k) ?_
  show own_Go p e below K (T10.setTop (mkF m 60 #[.val (.long q1), .second, .val (.long q2), .second, .val (.long q3), .second, .val (.long q4), .second, .val (.int p5), .val (.int p6), .val (.int ia), .val (.int ic), .val (.ref b1), .unset, .unset, .unset] [(.int (ic >>> ((6 : Int32) &&& 31))), (.int ia)]))
  refine own_st (fun t k => XS.iadd X10.here hx rfl (hb hby at_60) rfl k) ?_
  show own_Go p e below K (T10.setTop (mkF m 61 #[.val (.long q1), .second, .val (.long q2), .second, .val (.long q3), .second, .val (.long q4), .second, .val (.int p5), .val (.int p6), .val (.int ia), .val (.int ic), .val (.ref b1), .unset, .unset, .unset] [(.int (ia + (ic >>> ((6 : Int32) &&& 31))))]))
  generalize htg : (ia + (ic >>> ((6 : Int32) &&& 31))) = tg
  show own_Go p e below K (T10.setTop (mkF m 61 #[.val (.long q1), .second, .val (.long q2), .second, .val (.long q3), .second, .val (.long q4), .second, .val (.int p5), .val (.int p6), .val (.int ia), .val (.int ic), .val (.ref b1), .unset, .unset, .unset] [(.int tg)]))
  rw [own_sh Bi Bc] at htg
  have Gt : 0 ≤ tg.toInt ∧ tg.toInt ≤ 3 := by rw [← htg, Bt]; omega
  refine own_st (fun t k => XS.istore X10.here hx rfl (hb hby at_61) rfl (l' := #[.val (.long q1), .second, .val (.long q2), .second, .val (.long q3), .second, .val (.long q4), .second, .val (.int p5), .val (.int p6), .val (.int ia), .val (.int ic), .val (.ref b1), .val (.int tg), .unset, .unset]) rfl k) ?_
  show own_Go p e below K (T10.setTop (mkF m 63 #[.val (.long q1), .second, .val (.long q2), .second, .val (.long q3), .second, .val (.long q4), .second, .val (.int p5), .val (.int p6), .val (.int ia), .val (.int ic), .val (.ref b1), .val (.int tg), .unset, .unset] []))
  refine own_st (fun t k => XS.lconst X10.here hx rfl (hb hby at_63) k) ?_
  show own_Go p e below K (T10.setTop (mkF m 64 #[.val (.long q1), .second, .val (.long q2), .second, .val (.long q3), .second, .val (.long q4), .second, .val (.int p5), .val (.int p6), .val (.int ia), .val (.int ic), .val (.ref b1), .val (.int tg), .unset, .unset] [(.long (1 : Int64))]))
  refine own_st (fun t k => XS.iload X10.here hx rfl (hb hby at_64) rfl k) ?_
  show own_Go p e below K (T10.setTop (mkF m 66 #[.val (.long q1), .second, .val (.long q2), .second, .val (.long q3), .second, .val (.long q4), .second, .val (.int p5), .val (.int p6), .val (.int ia), .val (.int ic), .val (.ref b1), .val (.int tg), .unset, .unset] [(.int ic), (.long (1 : Int64))]))
  refine own_st (fun t k => XS.bipush X10.here hx rfl (hb hby at_66) k) ?_
  show own_Go p e below K (T10.setTop (mkF m 68 #[.val (.long q1), .second, .val (.long q2), .second, .val (.long q3), .second, .val (.long q4), .second, .val (.int p5), .val (.int p6), .val (.int ia), .val (.int ic), .val (.ref b1), .val (.int tg), .unset, .unset] [(.int (64 : Int32)), (.int ic), (.long (1 : Int64))]))
  refine own_st (fun t k => iremM X10 hx rfl (hb hby at_68) rfl (by decide) k) ?_
  show own_Go p e below K (T10.setTop (mkF m 69 #[.val (.long q1), .second, .val (.long q2), .second, .val (.long q3), .second, .val (.long q4), .second, .val (.int p5), .val (.int p6), .val (.int ia), .val (.int ic), .val (.ref b1), .val (.int tg), .unset, .unset] [(.int (ic % (64 : Int32))), (.long (1 : Int64))]))
  refine own_st (fun t k => XS.lshl X10.here hx rfl (hb hby at_69) rfl k) ?_
  show own_Go p e below K (T10.setTop (mkF m 70 #[.val (.long q1), .second, .val (.long q2), .second, .val (.long q3), .second, .val (.long q4), .second, .val (.int p5), .val (.int p6), .val (.int ia), .val (.int ic), .val (.ref b1), .val (.int tg), .unset, .unset] [(.long ((1 : Int64) <<< ((ic % (64 : Int32)) &&& 0x3f).toInt64))]))
  generalize hbt : ((1 : Int64) <<< ((ic % (64 : Int32)) &&& 0x3f).toInt64) = bt
  show own_Go p e below K (T10.setTop (mkF m 70 #[.val (.long q1), .second, .val (.long q2), .second, .val (.long q3), .second, .val (.long q4), .second, .val (.int p5), .val (.int p6), .val (.int ia), .val (.int ic), .val (.ref b1), .val (.int tg), .unset, .unset] [(.long bt)]))
  rw [own_bit Bc.1] at hbt
  have VV : Arv Z T10.heap b1 k1 .long (4 : Int32) (([q1, q2, q3, q4].set (tg).toNatClampNeg (([q1, q2, q3, q4].getD (tg).toNatClampNeg 0) ||| bt)).map Value.long) (.long (0 : Int64)) := by rw [← hbt, ← htg]; exact p10_0
  have AT := own_at4 (w0 := q1) (w1 := q2) (w2 := q3) (w3 := q4) (b := bt) Gt
  refine own_st (fun t k => XS.lstore X10.here hx rfl (hb hby at_70) rfl (l' := #[.val (.long q1), .second, .val (.long q2), .second, .val (.long q3), .second, .val (.long q4), .second, .val (.int p5), .val (.int p6), .val (.int ia), .val (.int ic), .val (.ref b1), .val (.int tg), .val (.long bt), .second]) rfl k) ?_
  show own_Go p e below K (T10.setTop (mkF m 72 #[.val (.long q1), .second, .val (.long q2), .second, .val (.long q3), .second, .val (.long q4), .second, .val (.int p5), .val (.int p6), .val (.int ia), .val (.int ic), .val (.ref b1), .val (.int tg), .val (.long bt), .second] []))
  refine own_st (fun t k => XS.aload X10.here hx rfl (hb hby at_72) rfl rfl k) ?_
  show own_Go p e below K (T10.setTop (mkF m 74 #[.val (.long q1), .second, .val (.long q2), .second, .val (.long q3), .second, .val (.long q4), .second, .val (.int p5), .val (.int p6), .val (.int ia), .val (.int ic), .val (.ref b1), .val (.int tg), .val (.long bt), .second] [(.ref b1)]))
  refine own_st (fun t k => XS.iconst X10.here hx rfl (hb hby at_74) k) ?_
  show own_Go p e below K (T10.setTop (mkF m 75 #[.val (.long q1), .second, .val (.long q2), .second, .val (.long q3), .second, .val (.long q4), .second, .val (.int p5), .val (.int p6), .val (.int ia), .val (.int ic), .val (.ref b1), .val (.int tg), .val (.long bt), .second] [(.int (0 : Int32)), (.ref b1)]))
  obtain ⟨cl11, Ar11, qa11, Sa11, Ma11, Ha11, Ga11⟩ := id VV
  have hin11 : ¬ ((0 : Int32) < 0 ∨ cl11.slots.size ≤ ((0 : Int32)).toNatClampNeg) := inb_of Sa11 ⟨by decide, by decide⟩
  refine own_st (X10.laload hx (j := (0 : Int32)) (v := (.long (([q1, q2, q3, q4].set (tg).toNatClampNeg (([q1, q2, q3, q4].getD (tg).toNatClampNeg 0) ||| bt)).getD ((0 : Int32)).toNatClampNeg 0))) (own_hat rfl Ar11.1) (State.isArrayOf_alike hZ.alike Ar11.2.1) Ar11.2.2 hin11 (Has.at Ha11 hin11 (own_atJ ([q1, q2, q3, q4].set (tg).toNatClampNeg (([q1, q2, q3, q4].getD (tg).toNatClampNeg 0) ||| bt)) _)) (g := (mkF m 75 #[.val (.long q1), .second, .val (.long q2), .second, .val (.long q3), .second, .val (.long q4), .second, .val (.int p5), .val (.int p6), .val (.int ia), .val (.int ic), .val (.ref b1), .val (.int tg), .val (.long bt), .second] [(.int (0 : Int32)), (.ref b1)])) rfl rfl (hb hby at_75)) ?_
  show own_Go p e below K (T10.setTop (mkF m 76 #[.val (.long q1), .second, .val (.long q2), .second, .val (.long q3), .second, .val (.long q4), .second, .val (.int p5), .val (.int p6), .val (.int ia), .val (.int ic), .val (.ref b1), .val (.int tg), .val (.long bt), .second] [(.long (([q1, q2, q3, q4].set (tg).toNatClampNeg (([q1, q2, q3, q4].getD (tg).toNatClampNeg 0) ||| bt)).getD ((0 : Int32)).toNatClampNeg 0))]))
  refine own_st (fun t k => XS.lloadN X10.here hx rfl (hb hby at_76) rfl k) ?_
  show own_Go p e below K (T10.setTop (mkF m 77 #[.val (.long q1), .second, .val (.long q2), .second, .val (.long q3), .second, .val (.long q4), .second, .val (.int p5), .val (.int p6), .val (.int ia), .val (.int ic), .val (.ref b1), .val (.int tg), .val (.long bt), .second] [(.long q1), (.long (([q1, q2, q3, q4].set (tg).toNatClampNeg (([q1, q2, q3, q4].getD (tg).toNatClampNeg 0) ||| bt)).getD ((0 : Int32)).toNatClampNeg 0))]))
  refine own_st (fun t k => XS.iconst X10.here hx rfl (hb hby at_77) k) ?_
  show own_Go p e below K (T10.setTop (mkF m 78 #[.val (.long q1), .second, .val (.long q2), .second, .val (.long q3), .second, .val (.long q4), .second, .val (.int p5), .val (.int p6), .val (.int ia), .val (.int ic), .val (.ref b1), .val (.int tg), .val (.long bt), .second] [(.int (0 : Int32)), (.long q1), (.long (([q1, q2, q3, q4].set (tg).toNatClampNeg (([q1, q2, q3, q4].getD (tg).toNatClampNeg 0) ||| bt)).getD ((0 : Int32)).toNatClampNeg 0))]))
  refine own_st (fun t k => XS.iload X10.here hx rfl (hb hby at_78) rfl k) ?_
  show own_Go p e below K (T10.setTop (mkF m 80 #[.val (.long q1), .second, .val (.long q2), .second, .val (.long q3), .second, .val (.long q4), .second, .val (.int p5), .val (.int p6), .val (.int ia), .val (.int ic), .val (.ref b1), .val (.int tg), .val (.long bt), .second] [(.int tg), (.int (0 : Int32)), (.long q1), (.long (([q1, q2, q3, q4].set (tg).toNatClampNeg (([q1, q2, q3, q4].getD (tg).toNatClampNeg 0) ||| bt)).getD ((0 : Int32)).toNatClampNeg 0))]))
  refine own_st (fun t k => XS.lload X10.here hx rfl (hb hby at_80) rfl k) ?_
  show own_Go p e below K (T10.setTop (mkF m 82 #[.val (.long q1), .second, .val (.long q2), .second, .val (.long q3), .second, .val (.long q4), .second, .val (.int p5), .val (.int p6), .val (.int ia), .val (.int ic), .val (.ref b1), .val (.int tg), .val (.long bt), .second] [(.long bt), (.int tg), (.int (0 : Int32)), (.long q1), (.long (([q1, q2, q3, q4].set (tg).toNatClampNeg (([q1, q2, q3, q4].getD (tg).toNatClampNeg 0) ||| bt)).getD ((0 : Int32)).toNatClampNeg 0))]))
  obtain ⟨_, _, ⟨T12, L12, k12, n12⟩, -, X12, ⟨Lc12, hQ12, l12, y12, z12⟩, st12⟩ := Jvm.LawKit.callS X10 hx (y := (⟨"com/example/slotwright/slotwright/instance/CourseSetAddPinLaw", "expect", "(JIIJ)J"⟩ : MethodName)) hown (mvT hZ (hw _ (List.mem_of_getElem? (i := 6) rfl))) (mvT hZ (hw _ (List.mem_of_getElem? (i := 7) rfl))) (mvT hZ (hw _ (List.mem_of_getElem? (i := 8) rfl))) (mvT hZ (hw _ (List.mem_of_getElem? (i := 9) rfl))) (by decide) (backOf (W := 2) (rm2 l Z a0 hw [] q1 (0 : Int32) tg bt T10.heap n0 Z10) hZ (hw _ (List.mem_of_getElem? (i := 9) rfl)) (hw _ (List.mem_of_getElem? (i := 8) rfl)) (by decide) (by decide)) (g := (mkF m 82 #[.val (.long q1), .second, .val (.long q2), .second, .val (.long q3), .second, .val (.long q4), .second, .val (.int p5), .val (.int p6), .val (.int ia), .val (.int ic), .val (.ref b1), .val (.int tg), .val (.long bt), .second] [(.long bt), (.int tg), (.int (0 : Int32)), (.long q1), (.long (([q1, q2, q3, q4].set (tg).toNatClampNeg (([q1, q2, q3, q4].getD (tg).toNatClampNeg 0) ||| bt)).getD ((0 : Int32)).toNatClampNeg 0))])) rfl (by rw [hml]; rfl) (argsL := [(.long q1), (.int (0 : Int32)), (.int tg), (.long bt)]) (rest := [(.long (([q1, q2, q3, q4].set (tg).toNatClampNeg (([q1, q2, q3, q4].getD (tg).toNatClampNeg 0) ||| bt)).getD ((0 : Int32)).toNatClampNeg 0))]) (lenOf pd_0_1 rfl) rfl (by show 2 * 0 + _ ≤ _; exact Nat.le_of_eq rfl) (hb hby at_82) (fun _ _ => ⟨rfl, rfl, (by decide : 1 + 0 ≤ _), (by decide : 4 + 0 ≤ _)⟩)
  dsimp only [Pt.U, Pt.locs, Pt.cells, Pt.slots] at X12 l12 y12 z12 st12 hQ12
  subst l12 y12 z12
  obtain ⟨r12, rfl, hr12, N12q, e12⟩ := hQ12
  have N12 := Fr.app N10 N12q
  refine own_st st12 ?_
  show own_Go p e below K (T12.setTop (mkF m 85 #[.val (.long q1), .second, .val (.long q2), .second, .val (.long q3), .second, .val (.long q4), .second, .val (.int p5), .val (.int p6), .val (.int ia), .val (.int ic), .val (.ref b1), .val (.int tg), .val (.long bt), .second] [(.long r12), (.long (([q1, q2, q3, q4].set (tg).toNatClampNeg (([q1, q2, q3, q4].getD (tg).toNatClampNeg 0) ||| bt)).getD ((0 : Int32)).toNatClampNeg 0))]))
  refine own_st (fun t k => XS.lcmp X12.here hx rfl (hb hby at_85) rfl k) ?_
  show own_Go p e below K (T12.setTop (mkF m 86 #[.val (.long q1), .second, .val (.long q2), .second, .val (.long q3), .second, .val (.long q4), .second, .val (.int p5), .val (.int p6), .val (.int ia), .val (.int ic), .val (.ref b1), .val (.int tg), .val (.long bt), .second] [(.int (lcmpW (([q1, q2, q3, q4].set (tg).toNatClampNeg (([q1, q2, q3, q4].getD (tg).toNatClampNeg 0) ||| bt)).getD ((0 : Int32)).toNatClampNeg 0) r12))]))
  refine own_st (fun t k => XS.ifNo X12.here hx rfl (hb hby at_86) rfl ((if0 _ _).trans (teq ((lw_eq _ _).mpr ((AT.1).trans hr12.symm : (([q1, q2, q3, q4].set (tg).toNatClampNeg (([q1, q2, q3, q4].getD (tg).toNatClampNeg 0) ||| bt)).getD ((0 : Int32)).toNatClampNeg 0) = r12))).2) k) ?_
  show own_Go p e below K (T12.setTop (mkF m 89 #[.val (.long q1), .second, .val (.long q2), .second, .val (.long q3), .second, .val (.long q4), .second, .val (.int p5), .val (.int p6), .val (.int ia), .val (.int ic), .val (.ref b1), .val (.int tg), .val (.long bt), .second] []))
  refine own_st (fun t k => XS.aload X12.here hx rfl (hb hby at_89) rfl rfl k) ?_
  show own_Go p e below K (T12.setTop (mkF m 91 #[.val (.long q1), .second, .val (.long q2), .second, .val (.long q3), .second, .val (.long q4), .second, .val (.int p5), .val (.int p6), .val (.int ia), .val (.int ic), .val (.ref b1), .val (.int tg), .val (.long bt), .second] [(.ref b1)]))
  refine own_st (fun t k => XS.iconst X12.here hx rfl (hb hby at_91) k) ?_
  show own_Go p e below K (T12.setTop (mkF m 92 #[.val (.long q1), .second, .val (.long q2), .second, .val (.long q3), .second, .val (.long q4), .second, .val (.int p5), .val (.int p6), .val (.int ia), .val (.int ic), .val (.ref b1), .val (.int tg), .val (.long bt), .second] [(.int (1 : Int32)), (.ref b1)]))
  obtain ⟨cl13, Ar13, qa13, Sa13, Ma13, Ha13, Ga13⟩ := id VV
  have hin13 : ¬ ((1 : Int32) < 0 ∨ cl13.slots.size ≤ ((1 : Int32)).toNatClampNeg) := inb_of Sa13 ⟨by decide, by decide⟩
  refine own_st (X12.laload hx (j := (1 : Int32)) (v := (.long (([q1, q2, q3, q4].set (tg).toNatClampNeg (([q1, q2, q3, q4].getD (tg).toNatClampNeg 0) ||| bt)).getD ((1 : Int32)).toNatClampNeg 0))) (own_hat e12 Ar13.1) (State.isArrayOf_alike hZ.alike Ar13.2.1) Ar13.2.2 hin13 (Has.at Ha13 hin13 (own_atJ ([q1, q2, q3, q4].set (tg).toNatClampNeg (([q1, q2, q3, q4].getD (tg).toNatClampNeg 0) ||| bt)) _)) (g := (mkF m 92 #[.val (.long q1), .second, .val (.long q2), .second, .val (.long q3), .second, .val (.long q4), .second, .val (.int p5), .val (.int p6), .val (.int ia), .val (.int ic), .val (.ref b1), .val (.int tg), .val (.long bt), .second] [(.int (1 : Int32)), (.ref b1)])) rfl rfl (hb hby at_92)) ?_
  show own_Go p e below K (T12.setTop (mkF m 93 #[.val (.long q1), .second, .val (.long q2), .second, .val (.long q3), .second, .val (.long q4), .second, .val (.int p5), .val (.int p6), .val (.int ia), .val (.int ic), .val (.ref b1), .val (.int tg), .val (.long bt), .second] [(.long (([q1, q2, q3, q4].set (tg).toNatClampNeg (([q1, q2, q3, q4].getD (tg).toNatClampNeg 0) ||| bt)).getD ((1 : Int32)).toNatClampNeg 0))]))
  refine own_st (fun t k => XS.lloadN X12.here hx rfl (hb hby at_93) rfl k) ?_
  show own_Go p e below K (T12.setTop (mkF m 94 #[.val (.long q1), .second, .val (.long q2), .second, .val (.long q3), .second, .val (.long q4), .second, .val (.int p5), .val (.int p6), .val (.int ia), .val (.int ic), .val (.ref b1), .val (.int tg), .val (.long bt), .second] [(.long q2), (.long (([q1, q2, q3, q4].set (tg).toNatClampNeg (([q1, q2, q3, q4].getD (tg).toNatClampNeg 0) ||| bt)).getD ((1 : Int32)).toNatClampNeg 0))]))
  refine own_st (fun t k => XS.iconst X12.here hx rfl (hb hby at_94) k) ?_
  show own_Go p e below K (T12.setTop (mkF m 95 #[.val (.long q1), .second, .val (.long q2), .second, .val (.long q3), .second, .val (.long q4), .second, .val (.int p5), .val (.int p6), .val (.int ia), .val (.int ic), .val (.ref b1), .val (.int tg), .val (.long bt), .second] [(.int (1 : Int32)), (.long q2), (.long (([q1, q2, q3, q4].set (tg).toNatClampNeg (([q1, q2, q3, q4].getD (tg).toNatClampNeg 0) ||| bt)).getD ((1 : Int32)).toNatClampNeg 0))]))
  refine own_st (fun t k => XS.iload X12.here hx rfl (hb hby at_95) rfl k) ?_
  show own_Go p e below K (T12.setTop (mkF m 97 #[.val (.long q1), .second, .val (.long q2), .second, .val (.long q3), .second, .val (.long q4), .second, .val (.int p5), .val (.int p6), .val (.int ia), .val (.int ic), .val (.ref b1), .val (.int tg), .val (.long bt), .second] [(.int tg), (.int (1 : Int32)), (.long q2), (.long (([q1, q2, q3, q4].set (tg).toNatClampNeg (([q1, q2, q3, q4].getD (tg).toNatClampNeg 0) ||| bt)).getD ((1 : Int32)).toNatClampNeg 0))]))
  refine own_st (fun t k => XS.lload X12.here hx rfl (hb hby at_97) rfl k) ?_
  show own_Go p e below K (T12.setTop (mkF m 99 #[.val (.long q1), .second, .val (.long q2), .second, .val (.long q3), .second, .val (.long q4), .second, .val (.int p5), .val (.int p6), .val (.int ia), .val (.int ic), .val (.ref b1), .val (.int tg), .val (.long bt), .second] [(.long bt), (.int tg), (.int (1 : Int32)), (.long q2), (.long (([q1, q2, q3, q4].set (tg).toNatClampNeg (([q1, q2, q3, q4].getD (tg).toNatClampNeg 0) ||| bt)).getD ((1 : Int32)).toNatClampNeg 0))]))
  obtain ⟨_, _, ⟨T14, L14, k14, n14⟩, -, X14, ⟨Lc14, hQ14, l14, y14, z14⟩, st14⟩ := Jvm.LawKit.callS X12 hx (y := (⟨"com/example/slotwright/slotwright/instance/CourseSetAddPinLaw", "expect", "(JIIJ)J"⟩ : MethodName)) hown (mvT hZ (hw _ (List.mem_of_getElem? (i := 6) rfl))) (mvT hZ (hw _ (List.mem_of_getElem? (i := 7) rfl))) (mvT hZ (hw _ (List.mem_of_getElem? (i := 8) rfl))) (mvT hZ (hw _ (List.mem_of_getElem? (i := 9) rfl))) (by decide) (backOf (W := 2) (rm2 l Z a0 hw [] q2 (1 : Int32) tg bt T10.heap n0 Z10) hZ (hw _ (List.mem_of_getElem? (i := 9) rfl)) (hw _ (List.mem_of_getElem? (i := 8) rfl)) (by decide) (by decide)) (g := (mkF m 99 #[.val (.long q1), .second, .val (.long q2), .second, .val (.long q3), .second, .val (.long q4), .second, .val (.int p5), .val (.int p6), .val (.int ia), .val (.int ic), .val (.ref b1), .val (.int tg), .val (.long bt), .second] [(.long bt), (.int tg), (.int (1 : Int32)), (.long q2), (.long (([q1, q2, q3, q4].set (tg).toNatClampNeg (([q1, q2, q3, q4].getD (tg).toNatClampNeg 0) ||| bt)).getD ((1 : Int32)).toNatClampNeg 0))])) rfl (by rw [hml]; rfl) (argsL := [(.long q2), (.int (1 : Int32)), (.int tg), (.long bt)]) (rest := [(.long (([q1, q2, q3, q4].set (tg).toNatClampNeg (([q1, q2, q3, q4].getD (tg).toNatClampNeg 0) ||| bt)).getD ((1 : Int32)).toNatClampNeg 0))]) (lenOf pd_0_1 rfl) rfl (by show 2 * 0 + _ ≤ _; exact Nat.le_of_eq rfl) (hb hby at_99) (fun _ _ => ⟨rfl, e12, (by decide : 1 + 0 ≤ _), (by decide : 4 + 0 ≤ _)⟩)
  dsimp only [Pt.U, Pt.locs, Pt.cells, Pt.slots] at X14 l14 y14 z14 st14 hQ14
  subst l14 y14 z14
  obtain ⟨r14, rfl, hr14, N14q, e14⟩ := hQ14
  have N14 := Fr.app N12 N14q
  refine own_st st14 ?_
  show own_Go p e below K (T14.setTop (mkF m 102 #[.val (.long q1), .second, .val (.long q2), .second, .val (.long q3), .second, .val (.long q4), .second, .val (.int p5), .val (.int p6), .val (.int ia), .val (.int ic), .val (.ref b1), .val (.int tg), .val (.long bt), .second] [(.long r14), (.long (([q1, q2, q3, q4].set (tg).toNatClampNeg (([q1, q2, q3, q4].getD (tg).toNatClampNeg 0) ||| bt)).getD ((1 : Int32)).toNatClampNeg 0))]))
  refine own_st (fun t k => XS.lcmp X14.here hx rfl (hb hby at_102) rfl k) ?_
  show own_Go p e below K (T14.setTop (mkF m 103 #[.val (.long q1), .second, .val (.long q2), .second, .val (.long q3), .second, .val (.long q4), .second, .val (.int p5), .val (.int p6), .val (.int ia), .val (.int ic), .val (.ref b1), .val (.int tg), .val (.long bt), .second] [(.int (lcmpW (([q1, q2, q3, q4].set (tg).toNatClampNeg (([q1, q2, q3, q4].getD (tg).toNatClampNeg 0) ||| bt)).getD ((1 : Int32)).toNatClampNeg 0) r14))]))
  refine own_st (fun t k => XS.ifNo X14.here hx rfl (hb hby at_103) rfl ((if0 _ _).trans (teq ((lw_eq _ _).mpr ((AT.2.1).trans hr14.symm : (([q1, q2, q3, q4].set (tg).toNatClampNeg (([q1, q2, q3, q4].getD (tg).toNatClampNeg 0) ||| bt)).getD ((1 : Int32)).toNatClampNeg 0) = r14))).2) k) ?_
  show own_Go p e below K (T14.setTop (mkF m 106 #[.val (.long q1), .second, .val (.long q2), .second, .val (.long q3), .second, .val (.long q4), .second, .val (.int p5), .val (.int p6), .val (.int ia), .val (.int ic), .val (.ref b1), .val (.int tg), .val (.long bt), .second] []))
  refine own_st (fun t k => XS.aload X14.here hx rfl (hb hby at_106) rfl rfl k) ?_
  show own_Go p e below K (T14.setTop (mkF m 108 #[.val (.long q1), .second, .val (.long q2), .second, .val (.long q3), .second, .val (.long q4), .second, .val (.int p5), .val (.int p6), .val (.int ia), .val (.int ic), .val (.ref b1), .val (.int tg), .val (.long bt), .second] [(.ref b1)]))
  refine own_st (fun t k => XS.iconst X14.here hx rfl (hb hby at_108) k) ?_
  show own_Go p e below K (T14.setTop (mkF m 109 #[.val (.long q1), .second, .val (.long q2), .second, .val (.long q3), .second, .val (.long q4), .second, .val (.int p5), .val (.int p6), .val (.int ia), .val (.int ic), .val (.ref b1), .val (.int tg), .val (.long bt), .second] [(.int (2 : Int32)), (.ref b1)]))
  obtain ⟨cl15, Ar15, qa15, Sa15, Ma15, Ha15, Ga15⟩ := id VV
  have hin15 : ¬ ((2 : Int32) < 0 ∨ cl15.slots.size ≤ ((2 : Int32)).toNatClampNeg) := inb_of Sa15 ⟨by decide, by decide⟩
  refine own_st (X14.laload hx (j := (2 : Int32)) (v := (.long (([q1, q2, q3, q4].set (tg).toNatClampNeg (([q1, q2, q3, q4].getD (tg).toNatClampNeg 0) ||| bt)).getD ((2 : Int32)).toNatClampNeg 0))) (own_hat e14 Ar15.1) (State.isArrayOf_alike hZ.alike Ar15.2.1) Ar15.2.2 hin15 (Has.at Ha15 hin15 (own_atJ ([q1, q2, q3, q4].set (tg).toNatClampNeg (([q1, q2, q3, q4].getD (tg).toNatClampNeg 0) ||| bt)) _)) (g := (mkF m 109 #[.val (.long q1), .second, .val (.long q2), .second, .val (.long q3), .second, .val (.long q4), .second, .val (.int p5), .val (.int p6), .val (.int ia), .val (.int ic), .val (.ref b1), .val (.int tg), .val (.long bt), .second] [(.int (2 : Int32)), (.ref b1)])) rfl rfl (hb hby at_109)) ?_
  show own_Go p e below K (T14.setTop (mkF m 110 #[.val (.long q1), .second, .val (.long q2), .second, .val (.long q3), .second, .val (.long q4), .second, .val (.int p5), .val (.int p6), .val (.int ia), .val (.int ic), .val (.ref b1), .val (.int tg), .val (.long bt), .second] [(.long (([q1, q2, q3, q4].set (tg).toNatClampNeg (([q1, q2, q3, q4].getD (tg).toNatClampNeg 0) ||| bt)).getD ((2 : Int32)).toNatClampNeg 0))]))
  refine own_st (fun t k => XS.lload X14.here hx rfl (hb hby at_110) rfl k) ?_
  show own_Go p e below K (T14.setTop (mkF m 112 #[.val (.long q1), .second, .val (.long q2), .second, .val (.long q3), .second, .val (.long q4), .second, .val (.int p5), .val (.int p6), .val (.int ia), .val (.int ic), .val (.ref b1), .val (.int tg), .val (.long bt), .second] [(.long q3), (.long (([q1, q2, q3, q4].set (tg).toNatClampNeg (([q1, q2, q3, q4].getD (tg).toNatClampNeg 0) ||| bt)).getD ((2 : Int32)).toNatClampNeg 0))]))
  refine own_st (fun t k => XS.iconst X14.here hx rfl (hb hby at_112) k) ?_
  show own_Go p e below K (T14.setTop (mkF m 113 #[.val (.long q1), .second, .val (.long q2), .second, .val (.long q3), .second, .val (.long q4), .second, .val (.int p5), .val (.int p6), .val (.int ia), .val (.int ic), .val (.ref b1), .val (.int tg), .val (.long bt), .second] [(.int (2 : Int32)), (.long q3), (.long (([q1, q2, q3, q4].set (tg).toNatClampNeg (([q1, q2, q3, q4].getD (tg).toNatClampNeg 0) ||| bt)).getD ((2 : Int32)).toNatClampNeg 0))]))
  refine own_st (fun t k => XS.iload X14.here hx rfl (hb hby at_113) rfl k) ?_
  show own_Go p e below K (T14.setTop (mkF m 115 #[.val (.long q1), .second, .val (.long q2), .second, .val (.long q3), .second, .val (.long q4), .second, .val (.int p5), .val (.int p6), .val (.int ia), .val (.int ic), .val (.ref b1), .val (.int tg), .val (.long bt), .second] [(.int tg), (.int (2 : Int32)), (.long q3), (.long (([q1, q2, q3, q4].set (tg).toNatClampNeg (([q1, q2, q3, q4].getD (tg).toNatClampNeg 0) ||| bt)).getD ((2 : Int32)).toNatClampNeg 0))]))
  refine own_st (fun t k => XS.lload X14.here hx rfl (hb hby at_115) rfl k) ?_
  show own_Go p e below K (T14.setTop (mkF m 117 #[.val (.long q1), .second, .val (.long q2), .second, .val (.long q3), .second, .val (.long q4), .second, .val (.int p5), .val (.int p6), .val (.int ia), .val (.int ic), .val (.ref b1), .val (.int tg), .val (.long bt), .second] [(.long bt), (.int tg), (.int (2 : Int32)), (.long q3), (.long (([q1, q2, q3, q4].set (tg).toNatClampNeg (([q1, q2, q3, q4].getD (tg).toNatClampNeg 0) ||| bt)).getD ((2 : Int32)).toNatClampNeg 0))]))
  obtain ⟨_, _, ⟨T16, L16, k16, n16⟩, -, X16, ⟨Lc16, hQ16, l16, y16, z16⟩, st16⟩ := Jvm.LawKit.callS X14 hx (y := (⟨"com/example/slotwright/slotwright/instance/CourseSetAddPinLaw", "expect", "(JIIJ)J"⟩ : MethodName)) hown (mvT hZ (hw _ (List.mem_of_getElem? (i := 6) rfl))) (mvT hZ (hw _ (List.mem_of_getElem? (i := 7) rfl))) (mvT hZ (hw _ (List.mem_of_getElem? (i := 8) rfl))) (mvT hZ (hw _ (List.mem_of_getElem? (i := 9) rfl))) (by decide) (backOf (W := 2) (rm2 l Z a0 hw [] q3 (2 : Int32) tg bt T10.heap n0 Z10) hZ (hw _ (List.mem_of_getElem? (i := 9) rfl)) (hw _ (List.mem_of_getElem? (i := 8) rfl)) (by decide) (by decide)) (g := (mkF m 117 #[.val (.long q1), .second, .val (.long q2), .second, .val (.long q3), .second, .val (.long q4), .second, .val (.int p5), .val (.int p6), .val (.int ia), .val (.int ic), .val (.ref b1), .val (.int tg), .val (.long bt), .second] [(.long bt), (.int tg), (.int (2 : Int32)), (.long q3), (.long (([q1, q2, q3, q4].set (tg).toNatClampNeg (([q1, q2, q3, q4].getD (tg).toNatClampNeg 0) ||| bt)).getD ((2 : Int32)).toNatClampNeg 0))])) rfl (by rw [hml]; rfl) (argsL := [(.long q3), (.int (2 : Int32)), (.int tg), (.long bt)]) (rest := [(.long (([q1, q2, q3, q4].set (tg).toNatClampNeg (([q1, q2, q3, q4].getD (tg).toNatClampNeg 0) ||| bt)).getD ((2 : Int32)).toNatClampNeg 0))]) (lenOf pd_0_1 rfl) rfl (by show 2 * 0 + _ ≤ _; exact Nat.le_of_eq rfl) (hb hby at_117) (fun _ _ => ⟨rfl, e14, (by decide : 1 + 0 ≤ _), (by decide : 4 + 0 ≤ _)⟩)
  dsimp only [Pt.U, Pt.locs, Pt.cells, Pt.slots] at X16 l16 y16 z16 st16 hQ16
  subst l16 y16 z16
  obtain ⟨r16, rfl, hr16, N16q, e16⟩ := hQ16
  have N16 := Fr.app N14 N16q
  refine own_st st16 ?_
  show own_Go p e below K (T16.setTop (mkF m 120 #[.val (.long q1), .second, .val (.long q2), .second, .val (.long q3), .second, .val (.long q4), .second, .val (.int p5), .val (.int p6), .val (.int ia), .val (.int ic), .val (.ref b1), .val (.int tg), .val (.long bt), .second] [(.long r16), (.long (([q1, q2, q3, q4].set (tg).toNatClampNeg (([q1, q2, q3, q4].getD (tg).toNatClampNeg 0) ||| bt)).getD ((2 : Int32)).toNatClampNeg 0))]))
  refine own_st (fun t k => XS.lcmp X16.here hx rfl (hb hby at_120) rfl k) ?_
  show own_Go p e below K (T16.setTop (mkF m 121 #[.val (.long q1), .second, .val (.long q2), .second, .val (.long q3), .second, .val (.long q4), .second, .val (.int p5), .val (.int p6), .val (.int ia), .val (.int ic), .val (.ref b1), .val (.int tg), .val (.long bt), .second] [(.int (lcmpW (([q1, q2, q3, q4].set (tg).toNatClampNeg (([q1, q2, q3, q4].getD (tg).toNatClampNeg 0) ||| bt)).getD ((2 : Int32)).toNatClampNeg 0) r16))]))
  refine own_st (fun t k => XS.ifNo X16.here hx rfl (hb hby at_121) rfl ((if0 _ _).trans (teq ((lw_eq _ _).mpr ((AT.2.2.1).trans hr16.symm : (([q1, q2, q3, q4].set (tg).toNatClampNeg (([q1, q2, q3, q4].getD (tg).toNatClampNeg 0) ||| bt)).getD ((2 : Int32)).toNatClampNeg 0) = r16))).2) k) ?_
  show own_Go p e below K (T16.setTop (mkF m 124 #[.val (.long q1), .second, .val (.long q2), .second, .val (.long q3), .second, .val (.long q4), .second, .val (.int p5), .val (.int p6), .val (.int ia), .val (.int ic), .val (.ref b1), .val (.int tg), .val (.long bt), .second] []))
  refine own_st (fun t k => XS.aload X16.here hx rfl (hb hby at_124) rfl rfl k) ?_
  show own_Go p e below K (T16.setTop (mkF m 126 #[.val (.long q1), .second, .val (.long q2), .second, .val (.long q3), .second, .val (.long q4), .second, .val (.int p5), .val (.int p6), .val (.int ia), .val (.int ic), .val (.ref b1), .val (.int tg), .val (.long bt), .second] [(.ref b1)]))
  refine own_st (fun t k => XS.iconst X16.here hx rfl (hb hby at_126) k) ?_
  show own_Go p e below K (T16.setTop (mkF m 127 #[.val (.long q1), .second, .val (.long q2), .second, .val (.long q3), .second, .val (.long q4), .second, .val (.int p5), .val (.int p6), .val (.int ia), .val (.int ic), .val (.ref b1), .val (.int tg), .val (.long bt), .second] [(.int (3 : Int32)), (.ref b1)]))
  obtain ⟨cl17, Ar17, qa17, Sa17, Ma17, Ha17, Ga17⟩ := id VV
  have hin17 : ¬ ((3 : Int32) < 0 ∨ cl17.slots.size ≤ ((3 : Int32)).toNatClampNeg) := inb_of Sa17 ⟨by decide, by decide⟩
  refine own_st (X16.laload hx (j := (3 : Int32)) (v := (.long (([q1, q2, q3, q4].set (tg).toNatClampNeg (([q1, q2, q3, q4].getD (tg).toNatClampNeg 0) ||| bt)).getD ((3 : Int32)).toNatClampNeg 0))) (own_hat e16 Ar17.1) (State.isArrayOf_alike hZ.alike Ar17.2.1) Ar17.2.2 hin17 (Has.at Ha17 hin17 (own_atJ ([q1, q2, q3, q4].set (tg).toNatClampNeg (([q1, q2, q3, q4].getD (tg).toNatClampNeg 0) ||| bt)) _)) (g := (mkF m 127 #[.val (.long q1), .second, .val (.long q2), .second, .val (.long q3), .second, .val (.long q4), .second, .val (.int p5), .val (.int p6), .val (.int ia), .val (.int ic), .val (.ref b1), .val (.int tg), .val (.long bt), .second] [(.int (3 : Int32)), (.ref b1)])) rfl rfl (hb hby at_127)) ?_
  show own_Go p e below K (T16.setTop (mkF m 128 #[.val (.long q1), .second, .val (.long q2), .second, .val (.long q3), .second, .val (.long q4), .second, .val (.int p5), .val (.int p6), .val (.int ia), .val (.int ic), .val (.ref b1), .val (.int tg), .val (.long bt), .second] [(.long (([q1, q2, q3, q4].set (tg).toNatClampNeg (([q1, q2, q3, q4].getD (tg).toNatClampNeg 0) ||| bt)).getD ((3 : Int32)).toNatClampNeg 0))]))
  refine own_st (fun t k => XS.lload X16.here hx rfl (hb hby at_128) rfl k) ?_
  show own_Go p e below K (T16.setTop (mkF m 130 #[.val (.long q1), .second, .val (.long q2), .second, .val (.long q3), .second, .val (.long q4), .second, .val (.int p5), .val (.int p6), .val (.int ia), .val (.int ic), .val (.ref b1), .val (.int tg), .val (.long bt), .second] [(.long q4), (.long (([q1, q2, q3, q4].set (tg).toNatClampNeg (([q1, q2, q3, q4].getD (tg).toNatClampNeg 0) ||| bt)).getD ((3 : Int32)).toNatClampNeg 0))]))
  refine own_st (fun t k => XS.iconst X16.here hx rfl (hb hby at_130) k) ?_
  show own_Go p e below K (T16.setTop (mkF m 131 #[.val (.long q1), .second, .val (.long q2), .second, .val (.long q3), .second, .val (.long q4), .second, .val (.int p5), .val (.int p6), .val (.int ia), .val (.int ic), .val (.ref b1), .val (.int tg), .val (.long bt), .second] [(.int (3 : Int32)), (.long q4), (.long (([q1, q2, q3, q4].set (tg).toNatClampNeg (([q1, q2, q3, q4].getD (tg).toNatClampNeg 0) ||| bt)).getD ((3 : Int32)).toNatClampNeg 0))]))
  refine own_st (fun t k => XS.iload X16.here hx rfl (hb hby at_131) rfl k) ?_
  show own_Go p e below K (T16.setTop (mkF m 133 #[.val (.long q1), .second, .val (.long q2), .second, .val (.long q3), .second, .val (.long q4), .second, .val (.int p5), .val (.int p6), .val (.int ia), .val (.int ic), .val (.ref b1), .val (.int tg), .val (.long bt), .second] [(.int tg), (.int (3 : Int32)), (.long q4), (.long (([q1, q2, q3, q4].set (tg).toNatClampNeg (([q1, q2, q3, q4].getD (tg).toNatClampNeg 0) ||| bt)).getD ((3 : Int32)).toNatClampNeg 0))]))
  refine own_st (fun t k => XS.lload X16.here hx rfl (hb hby at_133) rfl k) ?_
  show own_Go p e below K (T16.setTop (mkF m 135 #[.val (.long q1), .second, .val (.long q2), .second, .val (.long q3), .second, .val (.long q4), .second, .val (.int p5), .val (.int p6), .val (.int ia), .val (.int ic), .val (.ref b1), .val (.int tg), .val (.long bt), .second] [(.long bt), (.int tg), (.int (3 : Int32)), (.long q4), (.long (([q1, q2, q3, q4].set (tg).toNatClampNeg (([q1, q2, q3, q4].getD (tg).toNatClampNeg 0) ||| bt)).getD ((3 : Int32)).toNatClampNeg 0))]))
  obtain ⟨_, _, ⟨T18, L18, k18, n18⟩, -, X18, ⟨Lc18, hQ18, l18, y18, z18⟩, st18⟩ := Jvm.LawKit.callS X16 hx (y := (⟨"com/example/slotwright/slotwright/instance/CourseSetAddPinLaw", "expect", "(JIIJ)J"⟩ : MethodName)) hown (mvT hZ (hw _ (List.mem_of_getElem? (i := 6) rfl))) (mvT hZ (hw _ (List.mem_of_getElem? (i := 7) rfl))) (mvT hZ (hw _ (List.mem_of_getElem? (i := 8) rfl))) (mvT hZ (hw _ (List.mem_of_getElem? (i := 9) rfl))) (by decide) (backOf (W := 2) (rm2 l Z a0 hw [] q4 (3 : Int32) tg bt T10.heap n0 Z10) hZ (hw _ (List.mem_of_getElem? (i := 9) rfl)) (hw _ (List.mem_of_getElem? (i := 8) rfl)) (by decide) (by decide)) (g := (mkF m 135 #[.val (.long q1), .second, .val (.long q2), .second, .val (.long q3), .second, .val (.long q4), .second, .val (.int p5), .val (.int p6), .val (.int ia), .val (.int ic), .val (.ref b1), .val (.int tg), .val (.long bt), .second] [(.long bt), (.int tg), (.int (3 : Int32)), (.long q4), (.long (([q1, q2, q3, q4].set (tg).toNatClampNeg (([q1, q2, q3, q4].getD (tg).toNatClampNeg 0) ||| bt)).getD ((3 : Int32)).toNatClampNeg 0))])) rfl (by rw [hml]; rfl) (argsL := [(.long q4), (.int (3 : Int32)), (.int tg), (.long bt)]) (rest := [(.long (([q1, q2, q3, q4].set (tg).toNatClampNeg (([q1, q2, q3, q4].getD (tg).toNatClampNeg 0) ||| bt)).getD ((3 : Int32)).toNatClampNeg 0))]) (lenOf pd_0_1 rfl) rfl (by show 2 * 0 + _ ≤ _; exact Nat.le_of_eq rfl) (hb hby at_135) (fun _ _ => ⟨rfl, e16, (by decide : 1 + 0 ≤ _), (by decide : 4 + 0 ≤ _)⟩)
  dsimp only [Pt.U, Pt.locs, Pt.cells, Pt.slots] at X18 l18 y18 z18 st18 hQ18
  subst l18 y18 z18
  obtain ⟨r18, rfl, hr18, N18q, e18⟩ := hQ18
  have N18 := Fr.app N16 N18q
  refine own_st st18 ?_
  show own_Go p e below K (T18.setTop (mkF m 138 #[.val (.long q1), .second, .val (.long q2), .second, .val (.long q3), .second, .val (.long q4), .second, .val (.int p5), .val (.int p6), .val (.int ia), .val (.int ic), .val (.ref b1), .val (.int tg), .val (.long bt), .second] [(.long r18), (.long (([q1, q2, q3, q4].set (tg).toNatClampNeg (([q1, q2, q3, q4].getD (tg).toNatClampNeg 0) ||| bt)).getD ((3 : Int32)).toNatClampNeg 0))]))
  refine own_st (fun t k => XS.lcmp X18.here hx rfl (hb hby at_138) rfl k) ?_
  show own_Go p e below K (T18.setTop (mkF m 139 #[.val (.long q1), .second, .val (.long q2), .second, .val (.long q3), .second, .val (.long q4), .second, .val (.int p5), .val (.int p6), .val (.int ia), .val (.int ic), .val (.ref b1), .val (.int tg), .val (.long bt), .second] [(.int (lcmpW (([q1, q2, q3, q4].set (tg).toNatClampNeg (([q1, q2, q3, q4].getD (tg).toNatClampNeg 0) ||| bt)).getD ((3 : Int32)).toNatClampNeg 0) r18))]))
  refine own_st (fun t k => XS.ifNo X18.here hx rfl (hb hby at_139) rfl ((if0 _ _).trans (teq ((lw_eq _ _).mpr ((AT.2.2.2).trans hr18.symm : (([q1, q2, q3, q4].set (tg).toNatClampNeg (([q1, q2, q3, q4].getD (tg).toNatClampNeg 0) ||| bt)).getD ((3 : Int32)).toNatClampNeg 0) = r18))).2) k) ?_
  show own_Go p e below K (T18.setTop (mkF m 142 #[.val (.long q1), .second, .val (.long q2), .second, .val (.long q3), .second, .val (.long q4), .second, .val (.int p5), .val (.int p6), .val (.int ia), .val (.int ic), .val (.ref b1), .val (.int tg), .val (.long bt), .second] []))
  refine own_st (fun t k => XS.iconst X18.here hx rfl (hb hby at_142) k) ?_
  show own_Go p e below K (T18.setTop (mkF m 143 #[.val (.long q1), .second, .val (.long q2), .second, .val (.long q3), .second, .val (.long q4), .second, .val (.int p5), .val (.int p6), .val (.int ia), .val (.int ic), .val (.ref b1), .val (.int tg), .val (.long bt), .second] [(.int (1 : Int32))]))
  refine own_st (fun t k => XS.goto X18.here hx rfl (pc0 := 143) (pc' := 147) rfl (hb hby at_143) (by decide) (by decide) k) ?_
  show own_Go p e below K (T18.setTop (mkF m 147 #[.val (.long q1), .second, .val (.long q2), .second, .val (.long q3), .second, .val (.long q4), .second, .val (.int p5), .val (.int p6), .val (.int ia), .val (.int ic), .val (.ref b1), .val (.int tg), .val (.long bt), .second] [(.int (1 : Int32))]))
  obtain ⟨fs, hr, hrun, hended, hW, hsame⟩ := X18.leave (v := some (.int (nar .boolean (1 : Int32)))) (fun h => by rw [Bd.returns] at h; cases h)
  refine ⟨_, retN X18 hx (t := .boolean) Bd.returns (by simp) (hb hby at_147) hr, fin _ _ _ hrun hended ?_ ⟨⟨_, rfl⟩, hW, hsame.mono (by decide) (by decide)⟩⟩
  show Q0 Z q1 q2 q3 q4 p5 p6 h0 n0 _ T18.heap _
  rw [e18]
  exact ⟨rfl, N18⟩
set_option maxRecDepth 65536 in
set_option maxHeartbeats 40000000 in
theorem comes_1 {Post : Tables → Env → Array Value → State → Outcome → State → Prop} (hpost : ∀ tb e args s v u, (limb_1_1.after args s (.returned v) u = true ∧ limb_1_2.after args s (.returned v) u = true ∧ True) → FrameEnd s (.returned v) u (Jvm.fieldLocs frame_1_writes args s ++ Jvm.arrayLocs frame_1_arrays args s ++ Jvm.staticLocs frame_1_statics s) 16 128 → Post tb e args s (.returned v) u) :
    ArmFor flags0 classFile x code maxLocals ret World_1 tables_1 room_1 Calls_1 rest_1 Pre_1 Post := by
  intro l hfl _ _ p e ha hc hk s m args below hf hA hF happ hP
  obtain ⟨hcalls, hrest, hpre⟩ := hP
  obtain ⟨-, -, -, hnamed, -, -, -, hat⟩ := (Spec.applies_iff hf).mp happ
  obtain ⟨hg, hn⟩ := and_e (Cond.before_iff.mp (show (Jvm.Cond.and given_1 narrow_1).before args s = true from hpre))
  obtain ⟨g1, g2⟩ := and_e hg
  obtain ⟨g3, g4⟩ := and_e g2
  obtain ⟨g5, g6⟩ := and_e g4
  obtain ⟨g7, g8⟩ := and_e g6
  obtain ⟨g9, g10⟩ := and_e g8
  obtain ⟨g11, g12⟩ := and_e g10
  obtain ⟨w0, w1, w2, w3, w4, w5, rfl⟩ : ∃ w0 w1 w2 w3 w4 w5 : Value, args = #[w0, w1, w2, w3, w4, w5] := by
    have hs : args.size = 6 := by simpa [Cond.value, given_1] using g1
    obtain ⟨L⟩ := args
    match L, hs with
    | [w0, w1, w2, w3, w4, w5], _ => exact ⟨w0, w1, w2, w3, w4, w5, rfl⟩
  have hw := fun d (hd : d ∈ tables_1) => atoms_spec (ws := Jvm.Cond.code x code maxLocals ret :: tables_1) hat d (List.mem_cons_of_mem _ hd)
  have hfit : Fit s := fun {y c} hc i hi => by
    obtain ⟨ha, rfl⟩ := Array.getElem?_eq_some_iff.mp hc
    have q := List.all_eq_true.mp ((Array.all_eq_true_iff_forall_mem.mp hF) _ (Array.getElem_mem ha)) i (List.mem_range.mpr hi)
    simpa [Array.getElem?_eq_getElem hi] using q
  obtain ⟨i0, ei0⟩ := isL_v g3
  obtain rfl : w0 = (.long i0) := Option.some.inj ei0
  obtain ⟨i1, ei1⟩ := isL_v g5
  obtain rfl : w1 = (.long i1) := Option.some.inj ei1
  obtain ⟨i2, ei2⟩ := isL_v g7
  obtain rfl : w2 = (.long i2) := Option.some.inj ei2
  obtain ⟨i3, ei3⟩ := isL_v g9
  obtain rfl : w3 = (.long i3) := Option.some.inj ei3
  obtain ⟨i4, ei4⟩ := is_v g11
  obtain rfl : w4 = (.int i4) := Option.some.inj ei4
  obtain ⟨i5, ei5⟩ := is_v g12
  obtain rfl : w5 = (.int i5) := Option.some.inj ei5
  obtain ⟨n, o, h1, h2, h3, _, L, rfl, ⟨rfl, N⟩, hq⟩ := rm0 l s _ hw tables_1 i0 i1 i2 i3 i4 i5 s.heap s.heap.size (Nat.le_refl _) p e ha hc hk s m _ below hf ((Spec.applies_iff_loose hf).mp happ).1 ⟨rfl, State.Warmed39.refl s, rfl⟩ trivial
  refine ⟨n, _, h1, h2, h3, hpost _ _ _ _ _ _ ⟨Cond.after_iff.mpr rfl, Cond.after_iff.mpr (eq_i res_at (Term.int_eval (1)) rfl), trivial⟩ ⟨hq.1, hq.2.1, (hq.2.2.sift fun y hy => Or.inr (N y hy)).mono (by decide) (by decide)⟩⟩
theorem main_1_1 : Claimed_1_1 := comes_1 fun _ _ _ _ _ _ h hF => ⟨h.1, hF⟩
theorem main_1_2 : Claimed_1_2 := comes_1 fun _ _ _ _ _ _ h hF => ⟨h.2.1, hF⟩
end Jvm.Pilot.@@N@@
namespace Jvm.Pilot.@@N@@
open Jvm Jvm.ClassFile Sem Op Lib Jvm.Free Jvm.Stand Jvm.Pilot.@@N@@.Jvm.D
/-! MADE BY PROGRAM (witnessworld.py) out of the Statement's table words and the real class files: 11 classes; the members and pool entries that the words name. The judged class is class 1, her method 2. -/
namespace start1
open Jvm.ClassFile
def u (s : String) : CpInfo := .utf8 (stringToUtf16 s)
/-- a pool by its gaps: so many unusable entries, then the entry; so many at the end -/
def gap : Nat → List CpInfo → List CpInfo
  | 0, r => r
  | n + 1, r => .unusable :: gap n r
def poolList (es : List (Nat × CpInfo)) (last : Nat) : List CpInfo := es.foldr (fun e r => gap e.1 (e.2 :: r)) (gap last [])
def pool (es : List (Nat × CpInfo)) (last : Nat) : Array CpInfo := ⟨poolList es last⟩
def fileOf (pool : Array CpInfo) (this : Nat) (attrs : Array Attribute := #[]) (ms : Array MethodInfo := #[]) (fl : Nat := 33) (sup : Nat := 0) (ifs : Array Nat := #[]) (fds : Array FieldInfo := #[]) : ClassFile where
  minorVersion := 0
  majorVersion := 65
  constantPool := pool
  accessFlags := fl
  thisClass := this
  superClass := sup
  interfaces := ifs
  fields := fds
  methods := ms
  attributes := attrs
def plain (name : String) (sup : Option ClassId) : Class where
  name := name
  kind := .ordinary
  loader := none
  accessFlags := 33
  super := sup
  interfaces := #[]
  cf := none
  fields := #[]
  methods := #[]
  instanceTypes := #[]
  staticTypes := #[]
  resolved := #[]
  callSites := []
  init := .initialized
  statics := none
  mirror := none

def pool0 : Array CpInfo := pool [(5, u "<init>"), (0, u "()V"), (1, .class_ 10), (1, u "java/lang/Object")] 113

def k0m0 : Method := { name := "<init>", desc := "()V", sig := { parameters := [], returnType := none }, accessFlags := 1, code := none }
/-- java/lang/Object -/
def k0 : Class := { plain "java/lang/Object" none with
  accessFlags := 33
  interfaces := #[]
  cf := some (fileOf pool0 8 #[] #[{ accessFlags := 1, nameIndex := 5, descriptorIndex := 6, attributes := #[] }] 33 0 #[] #[])
  fields := #[]
  methods := #[k0m0]
  instanceTypes := #[]
  staticTypes := #[]
  resolved := Array.replicate 124 none
  statics := none }

def pool1 : Array CpInfo := pool [(2, .class_ 4), (1, u "java/lang/Object"), (0, u "<init>"), (0, u "()V"), (0, .integer 2147483647), (0, .methodref 9 10), (0, .class_ 11), (0, .nameAndType 12 13), (0, u "com/example/slotwright/slotwright/instance/CourseSet"), (0, u "add"), (0, u "([JII)V"), (0, .methodref 15 16), (0, .class_ 17), (0, .nameAndType 18 19), (0, u "com/example/slotwright/slotwright/instance/CourseSetAddPinLaw"), (0, u "expect"), (0, u "(JIIJ)J"), (3, u "law"), (0, u "(JJJJII)Z")] 4

def k1m0 : Method := { name := "<init>", desc := "()V", sig := { parameters := [], returnType := none }, accessFlags := 1, code := none }
def k1c1 : Code := { maxStack := 4, maxLocals := 6, code := method_2_code, exceptionTable := #[], attributes := #[] }
def k1m1 : Method := { name := "expect", desc := "(JIIJ)J", sig := { parameters := [.long, .int, .int, .long], returnType := some .long }, accessFlags := 10, code := some k1c1 }
def k1c2 : Code := { maxStack := 8, maxLocals := 16, code := code, exceptionTable := #[], attributes := #[] }
def k1m2 : Method := { name := "law", desc := "(JJJJII)Z", sig := { parameters := [.long, .long, .long, .long, .int, .int], returnType := some .boolean }, accessFlags := 9, code := some k1c2 }
/-- com/example/slotwright/slotwright/instance/CourseSetAddPinLaw -/
def k1 : Class := { plain "com/example/slotwright/slotwright/instance/CourseSetAddPinLaw" (some 0) with
  accessFlags := 49
  interfaces := #[]
  cf := some (fileOf pool1 15 #[] #[{ accessFlags := 1, nameIndex := 5, descriptorIndex := 6, attributes := #[] }, { accessFlags := 10, nameIndex := 18, descriptorIndex := 19, attributes := #[] }, { accessFlags := 9, nameIndex := 23, descriptorIndex := 24, attributes := #[] }] 49 2 #[] #[])
  fields := #[]
  methods := #[k1m0, k1m1, k1m2]
  instanceTypes := #[]
  staticTypes := #[]
  resolved := Array.replicate 29 none
  statics := none }

def pool2 : Array CpInfo := pool [(2, .class_ 4), (1, u "java/lang/Object"), (3, .class_ 10), (1, u "com/example/slotwright/slotwright/instance/CourseSet"), (0, u "words"), (0, u "[J"), (34, u "add"), (0, u "([JII)V")] 26

def k2c0 : Code := { maxStack := 7, maxLocals := 3, code := prog_34_method_4_code, exceptionTable := #[], attributes := #[] }
def k2m0 : Method := { name := "add", desc := "([JII)V", sig := { parameters := [(.array .long), .int, .int], returnType := none }, accessFlags := 9, code := some k2c0 }
/-- com/example/slotwright/slotwright/instance/CourseSet -/
def k2 : Class := { plain "com/example/slotwright/slotwright/instance/CourseSet" (some 0) with
  accessFlags := 49
  interfaces := #[]
  cf := some (fileOf pool2 8 #[] #[{ accessFlags := 9, nameIndex := 47, descriptorIndex := 48, attributes := #[] }] 49 2 #[] #[{ accessFlags := 18, nameIndex := 11, descriptorIndex := 12, attributes := #[] }])
  fields := #[{ name := "words", type := (.array .long), accessFlags := 18, slot := 0, constantValue := 0 }]
  methods := #[k2m0]
  instanceTypes := #[(.array .long)]
  staticTypes := #[]
  resolved := Array.replicate 75 none
  statics := none }

def pool3 : Array CpInfo := pool [(1, u "java/lang/Cloneable"), (0, .class_ 1), (0, u "java/lang/Object"), (0, .class_ 3)] 3

/-- java/lang/Cloneable -/
def k3 : Class := { plain "java/lang/Cloneable" (some 0) with
  accessFlags := 1537
  interfaces := #[]
  cf := some (fileOf pool3 2 #[] #[] 1537 4 #[] #[])
  fields := #[]
  methods := #[]
  instanceTypes := #[]
  staticTypes := #[]
  resolved := Array.replicate 8 none
  statics := none }

def pool4 : Array CpInfo := pool [(1, u "java/io/Serializable"), (0, .class_ 1), (0, u "java/lang/Object"), (0, .class_ 3)] 3

/-- java/io/Serializable -/
def k4 : Class := { plain "java/io/Serializable" (some 0) with
  accessFlags := 1537
  interfaces := #[]
  cf := some (fileOf pool4 2 #[] #[] 1537 4 #[] #[])
  fields := #[]
  methods := #[]
  instanceTypes := #[]
  staticTypes := #[]
  resolved := Array.replicate 8 none
  statics := none }

/-- the primitive byte -/
def k5 : Class := { plain "byte" none with kind := .primitive 'B', accessFlags := 0x411 }
/-- [B -/
def k6 : Class := { plain "[B" (some 0) with kind := .array 5 .byte, interfaces := #[3, 4], accessFlags := 1041 }

/-- the primitive int -/
def k7 : Class := { plain "int" none with kind := .primitive 'I', accessFlags := 0x411 }
/-- [I -/
def k8 : Class := { plain "[I" (some 0) with kind := .array 7 .int, interfaces := #[3, 4], accessFlags := 1041 }

/-- the primitive long -/
def k9 : Class := { plain "long" none with kind := .primitive 'J', accessFlags := 0x411 }
/-- [J -/
def k10 : Class := { plain "[J" (some 0) with kind := .array 9 .long, interfaces := #[3, 4], accessFlags := 1041 }

def heap : Heap := #[]
def classes : Array Class := #[k0, k1, k2, k3, k4, k5, k6, k7, k8, k9, k10]
def interned : List (Array UInt16 × Addr) := []
def slotsUsed : Nat := 0
def theMethod : MethodId := ⟨1, 2⟩
def args0 : Array Value := #[.long 1, .long 2, .long 3, .long 4, .int 5, .int 6]
def aboutOver (below : List Frame) : State where
  vm := { classes := classes, interned := interned.toArray }
  heap := heap
  slotsUsed := slotsUsed
  threads := #[{ frames := .invoking theMethod args0 :: below }]
def below0 : List Frame := [.native { method := ⟨0, 0⟩, args := #[] }]
def about1 : State := aboutOver below0
def p0 : Program := .bare "" "" ""
def e0 : Env := launch0.env 0 0 0
theorem w_frames : about1.frames = Frame.invoking theMethod args0 :: below0 := rfl
set_option maxRecDepth 65536 in
theorem w_args : argsFit about1.vm theMethod args0 = true := by decide +kernel
set_option maxRecDepth 65536 in
theorem w_heap : heapFits about1 = true := by decide +kernel
set_option maxRecDepth 65536 in
theorem w_runnable : about1.curStatus? = some .runnable := by decide +kernel
set_option maxRecDepth 65536 in
theorem w_alone : about1.alone = true := by decide +kernel
set_option maxRecDepth 65536 in
theorem w_named : about1.methodNamed? x = some theMethod := by decide +kernel
set_option maxRecDepth 65536 in
theorem w_hears : about1.hears theMethod below0 = true := by decide +kernel
set_option maxRecDepth 65536 in
theorem w_ripe : about1.ripe theMethod args0 below0 = true := by decide +kernel
theorem w_running : about1.status = .running := rfl
set_option maxRecDepth 65536 in
theorem w_room : about1.hasRoom e0.platform room_1 = true :=
  launch0.hasRoom_least _ room_1 (by decide +kernel) (by decide +kernel) (by decide +kernel) (by decide +kernel) (by decide +kernel) (by decide +kernel)
theorem allAtoms_all (ts : List Jvm.Cond) (a : Array Jvm.Value) (st : Jvm.State) : (allAtoms ts).before a st = ts.all (fun c => c.before a st) := by
  induction ts with
  | nil => rfl
  | cons c t ih =>
    show (Jvm.Cond.and c (allAtoms t)).before a st = _
    rw [Jvm.Cond.before_and, ih, List.all_cons]
def words1 : List Jvm.Cond := Jvm.Cond.code x code maxLocals ret :: tables_1
/-- a 'code' word, met by the world's own term for the bytes: nothing is compared byte by byte -/
theorem code_word {y : MethodName} {bytes : ByteArray} {mx : Nat} {rt : Option FieldType} {a : Array Value} {s : State} {m : MethodId} {meth : Method} {c : Code} (h1 : s.methodNamed? y = some m) (h2 : s.vm.method? m = some meth) (h3 : meth.code = some c) (h4 : c.code = bytes)
    (h5 : (c.maxLocals == mx && c.exceptionTable.isEmpty && decide (c.maxStack ≤ mostOperands) && decide (meth.sig.returnType = rt) && !meth.locks && decide (parseMethodDescriptor y.desc = some meth.sig)) = true) : (Jvm.Cond.code y bytes mx rt).before a s = true := by
  simp only [Bool.and_eq_true, beq_iff_eq, Bool.not_eq_true', decide_eq_true_eq] at h5
  obtain ⟨⟨⟨⟨⟨g1, g2⟩, g3⟩, g4⟩, g5⟩, g6⟩ := h5
  simp [Cond.before, Cond.holds, Cond.value, h1, h2, h3, h4, g1, g2, g3, g4, g5, g6]
def isCode : Jvm.Cond → Bool
  | .code _ _ _ _ => true
  | _ => false
theorem all_split {L : List Jvm.Cond} {P : Jvm.Cond → Bool} (h1 : L.all (fun c => isCode c || P c) = true) (h2 : ∀ c ∈ L.filter isCode, P c = true) : L.all P = true := by
  refine List.all_eq_true.mpr fun c hc => ?_
  have h := List.all_eq_true.mp h1 c hc
  rcases Bool.eq_false_or_eq_true (isCode c) with hi | hi
  · exact h2 c (List.mem_filter.mpr ⟨hc, hi⟩)
  · simpa [hi] using h
set_option maxRecDepth 65536 in
theorem w_c0 : (Jvm.Cond.code x code maxLocals ret).before args0 about1 = true := code_word (m := ⟨1, 2⟩) (meth := k1m2) (c := k1c2) (by decide +kernel) rfl rfl rfl (by decide +kernel)
set_option maxRecDepth 65536 in
theorem w_c1 : (Jvm.Cond.code ({ cls := "com/example/slotwright/slotwright/instance/CourseSet", name := "add", desc := "([JII)V" } : Jvm.MethodName) prog_34_method_4_code (3 : Nat) (Option.none : Option Jvm.ClassFile.FieldType)).before args0 about1 = true := code_word (m := ⟨2, 0⟩) (meth := k2m0) (c := k2c0) (by decide +kernel) rfl rfl rfl (by decide +kernel)
set_option maxRecDepth 65536 in
theorem w_c2 : (Jvm.Cond.code ({ cls := "com/example/slotwright/slotwright/instance/CourseSetAddPinLaw", name := "expect", desc := "(JIIJ)J" } : Jvm.MethodName) method_2_code (6 : Nat) (Option.some Jvm.ClassFile.FieldType.long)).before args0 about1 = true := code_word (m := ⟨1, 1⟩) (meth := k1m1) (c := k1c1) (by decide +kernel) rfl rfl rfl (by decide +kernel)
def codes1 : List Jvm.Cond := [Jvm.Cond.code x code maxLocals ret, Jvm.Cond.code ({ cls := "com/example/slotwright/slotwright/instance/CourseSet", name := "add", desc := "([JII)V" } : Jvm.MethodName) prog_34_method_4_code (3 : Nat) (Option.none : Option Jvm.ClassFile.FieldType), Jvm.Cond.code ({ cls := "com/example/slotwright/slotwright/instance/CourseSetAddPinLaw", name := "expect", desc := "(JIIJ)J" } : Jvm.MethodName) method_2_code (6 : Nat) (Option.some Jvm.ClassFile.FieldType.long)]
set_option maxRecDepth 65536 in
theorem codes_eq : words1.filter isCode = codes1 := rfl
theorem w_codes : ∀ c ∈ words1.filter isCode, c.before args0 about1 = true := by
  rw [codes_eq]
  intro c hc
  simp only [codes1, List.mem_cons, List.not_mem_nil, or_false] at hc
  rcases hc with rfl | rfl | rfl
  · exact w_c0
  · exact w_c1
  · exact w_c2
set_option maxRecDepth 65536 in
theorem w_t1 : words1.all (fun c => isCode c || c.before args0 about1) = true := by decide +kernel
theorem w_tables : (allAtoms (Jvm.Cond.code x code maxLocals ret :: tables_1)).before args0 about1 = true := by
  rw [allAtoms_all]
  show words1.all (fun c => c.before args0 about1) = true
  refine all_split ?_ w_codes
  rw [w_t1]
set_option maxRecDepth 65536 in
theorem w_case : (Jvm.Cond.and given_1 narrow_1).before args0 about1 = true := by decide +kernel
theorem w_applies : (headSpec (Jvm.Cond.code x code maxLocals ret :: tables_1) room_1).applies x e0.platform about1 = true :=
  (Spec.applies_iff w_frames).mpr ⟨w_running, w_runnable, w_alone, w_named, w_hears, w_ripe, w_room, w_tables⟩
theorem atStart : AtStart classFile x code maxLocals ret World_1 tables_1 room_1 Calls_1 rest_1 Pre_1 launch0 p0 e0 about1 theMethod args0 below0 :=
  ⟨lists_1, trivial, launch0.admits_env _ _ _, launch0.least_env, fairChoices_fair.cas, fairChoices_fair.clock, w_frames, w_args, w_heap, w_applies, trivial, trivial, w_case⟩
end start1
theorem witness_1 : WitnessClaimed_1 := ⟨start1.p0, start1.e0, start1.about1, start1.theMethod, start1.args0, start1.below0, start1.atStart⟩
end Jvm.Pilot.@@N@@
