import JvmDerived
import JvmDerived.Pilot.@@N@@Statement
import JvmDerived.Pilot.@@N@@Code
set_option linter.unusedVariables false
set_option linter.unusedSimpArgs false
namespace Jvm.RoadKit
open Sem ClassFile Op Lib Jvm.Stand Jvm.Free Jvm.LawKit
section New
variable {p : Program} {l : Launch} {e : Env} {R : Room} {s : State} {m : MethodId} {args : Array Value} {below : List Frame} {meth : Method} {c : Code} {T : State} {locs : List Loc} {cells slots : Nat}
theorem retI (X : Stand p l e R s m args below meth c T locs cells slots) (hx : p.tables.exec = Jvm.exec) {pc : Nat} {Ls : Array Slot} {z : Int32} {rest : List Value} (hret : meth.sig.returnType = some .int) (hd : decode c.code pc = .ok (.ireturn, 1)) {fs : List Frame}
    (hl : ∀ (f : JFrame) (acts : List Action), f.method = m → f.locked = none → f.entered = [] → (doReturn e (T.setTop f) acts (some (.int z))).1 = T.setFrames fs) : Steps p.tables e below (T.setTop (mkF m pc Ls (.int z :: rest))) (T.setFrames fs) := by
  have hm' : T.vm.method? m = some meth := X.method'
  have hn : narrow .int (.int z) = .int z := rfl
  show Steps p.tables e below (T.setTop { method := m, pc := pc, locals := Ls, stack := _ :: rest, locked := none }) _
  jvm_step X.here [X.here.top, hx, hd, hm', hret, hn]
  first | (intro acts; rw [hl _ acts rfl rfl rfl]) | rw [hl _ _ rfl rfl rfl]
  exact Steps.refl _
end New
end Jvm.RoadKit
namespace Jvm.Pilot.@@N@@
open Jvm Jvm.ClassFile Sem Op Lib Jvm.Free Jvm.Stand Jvm.LawKit Jvm.RoadKit Bundle Jvm.Pilot.@@N@@.Jvm.D
/-- from the state T the run comes to a state of which K holds -/
def own_Go (p : Program) (e : Env) (below : List Frame) (K : State → Prop) (T : State) : Prop := ∃ t, Steps p.tables e below T t ∧ K t
theorem own_st {p : Program} {e : Env} {below : List Frame} {K : State → Prop} {T T' : State} (h : ∀ t, Steps p.tables e below T' t → Steps p.tables e below T t) (g : own_Go p e below K T') : own_Go p e below K T := by
  obtain ⟨t, a, b⟩ := g; exact ⟨t, h t a, b⟩
theorem own_tr {p : Program} {e : Env} {below : List Frame} {K : State → Prop} {T T' : State} (h : Steps p.tables e below T T') (g : own_Go p e below K T') : own_Go p e below K T := by
  obtain ⟨t, a, b⟩ := g; exact ⟨t, h.trans a, b⟩
theorem own_lrem {tb : Tables} [Ours tb] {e : Env} {below : List Frame} {T target : State} {m : MethodId} {c : Code} {g : JFrame} (h : At T m c below) (hx : tb.exec = Jvm.exec) (hg : g.method = m) {x y : Int64} {rest : List Value} (hd : decode c.code g.pc = .ok (.lrem, 1)) (hs : g.stack = .long y :: .long x :: rest) (hy : y ≠ 0)
    (hr : Steps tb e below (T.setTop { g with pc := g.pc + 1, stack := .long (x % y) :: rest }) target) : Steps tb e below (T.setTop g) target := by
  have q : x - x / y * y = x % y := lrem_mod x y
  exact XS.lrem h hx hg hd hs hy (by rw [q]; exact hr)
/-- a boolean's worth: 1 where P holds, 0 where it doesn't -/
def own_B (P : Prop) (r : Int32) : Prop := (r = 1 ∧ P) ∨ (r = 0 ∧ ¬ P)
theorem own_B.yes {P : Prop} {r : Int32} (e : r = 1) (h : P) : own_B P r := Or.inl ⟨e, h⟩
theorem own_B.no {P : Prop} {r : Int32} (e : r = 0) (h : ¬ P) : own_B P r := Or.inr ⟨e, h⟩
theorem own_B.same {P Q : Prop} {r v : Int32} (a : own_B P r) (b : own_B Q v) (h : P ↔ Q) : r = v := by
  rcases a with ⟨rfl, p⟩ | ⟨rfl, p⟩ <;> rcases b with ⟨rfl, q⟩ | ⟨rfl, q⟩
  · rfl
  · exact absurd (h.mp p) q
  · exact absurd (h.mpr q) p
  · rfl
theorem own_B.one {P : Prop} {r : Int32} (a : own_B P r) (h : P) : r = 1 := by
  rcases a with ⟨rfl, p⟩ | ⟨rfl, p⟩
  · rfl
  · exact absurd h p
theorem own_B.zero {P : Prop} {r : Int32} (a : own_B P r) (h : ¬ P) : r = 0 := by
  rcases a with ⟨rfl, p⟩ | ⟨rfl, p⟩
  · exact absurd p h
  · rfl
theorem own_B.ne0 {P : Prop} {r : Int32} (a : own_B P r) (h : P) : ¬ r = 0 := by rw [a.one h]; decide
theorem own_B.holds {P : Prop} {r : Int32} (a : own_B P r) (h : ¬ r = 0) : P := by
  rcases a with ⟨rfl, p⟩ | ⟨rfl, p⟩
  · exact p
  · exact absurd rfl h
theorem own_B.fails {P : Prop} {r : Int32} (a : own_B P r) (h : r = 0) : ¬ P := by
  rcases a with ⟨rfl, p⟩ | ⟨rfl, p⟩
  · exact absurd h (by decide)
  · exact p
theorem own_atJ (ws : List Int64) (i : Nat) : (ws.map Value.long).getD i (.long (0 : Int64)) = .long (ws.getD i 0) := by
  simp only [List.getD, List.getElem?_map]; cases ws[i]? <;> rfl
theorem own_atI (ws : List Int32) (i : Nat) : (ws.map Value.int).getD i (.int (0 : Int32)) = .int (ws.getD i 0) := by
  simp only [List.getD, List.getElem?_map]; cases ws[i]? <;> rfl
theorem own_selp {Z s : State} {a0 args : Array Value} {y : MethodName} {n : Nat} (hZ : Z.Warmed39 s.vm) (wi : (Jvm.Cond.instantiable y.cls n).before a0 Z = true) (wm : (Jvm.Cond.instanceMethod y).before a0 Z = true) (wp : (Jvm.Cond.privateMethod y).before a0 Z = true) (hy : y.cls ≠ "java/lang/invoke/MethodHandle" ∧ y.cls ≠ "java/lang/invoke/VarHandle") : (Jvm.Cond.selects y.cls y y).before args s = true := by
  have w1 : (Jvm.Cond.instantiable y.cls n).before args s = true := mvT hZ wi
  obtain ⟨c, k, h1, h2, h3, h4, -⟩ := Cond.instantiable_spec w1
  have h5 : k.isInterface = false := by cases hq : k.isInterface <;> simp [hq] at h4 ⊢
  exact selects_self_of_private h1 h2 h5 (Cond.privateMethod_at (mvP hZ wp (args := args))) (mvT hZ wm) hy
theorem own_hat {T : State} {h : Heap} {a : Addr} {c : Cell} (e : T.heap = h) (q : h[a]? = some c) : T.heap[a]? = some c := by rw [e]; exact q
theorem own_nn (x : Int32) : nar .byte (nar .byte x) = nar .byte x := by
  refine Int32.toInt_inj.mp ?_
  have a := c_i2b x
  have b := c_i2b x.toInt8.toInt32
  show x.toInt8.toInt32.toInt8.toInt32.toInt = x.toInt8.toInt32.toInt
  omega
theorem own_nb (x : Int32) : nar .byte x.toInt8.toInt32 = x.toInt8.toInt32 := own_nn x
theorem own_fit {x : Int32} (h : nar .byte x = x) : fits .byte (.int x) = true := by rw [← h]; exact fits_nar_byte x
theorem own_cl {j : Int32} {i : Nat} (h : j.toInt = (i : Int)) : j.toNatClampNeg = i := by rw [Int32.toNatClampNeg, h]; rfl
theorem own_lt {a b : Int32} (h : a.toInt < b.toInt) : a < b := Int32.lt_iff_toInt_lt.mpr h
theorem own_nlt {a b : Int32} (h : b.toInt ≤ a.toInt) : ¬ a < b := fun q => absurd (Int32.lt_iff_toInt_lt.mp q) (by omega)
theorem own_ltI {a b : Int32} (h : a < b) : a.toInt < b.toInt := Int32.lt_iff_toInt_lt.mp h
theorem own_nltI {a b : Int32} (h : ¬ a < b) : b.toInt ≤ a.toInt := by have := mt Int32.lt_iff_toInt_lt.mpr h; omega
theorem own_neI {a b : Int32} (h : ¬ a = b) : ¬ a.toInt = b.toInt := fun q => h (Int32.toInt_inj.mp q)
theorem own_ltL {a b : Int64} (h : a < b) : a.toInt < b.toInt := Int64.lt_iff_toInt_lt.mp h
theorem own_nltL {a b : Int64} (h : ¬ a < b) : b.toInt ≤ a.toInt := by have := mt Int64.lt_iff_toInt_lt.mpr h; omega
theorem own_neL {a b : Int64} (h : ¬ a = b) : ¬ a.toInt = b.toInt := fun q => h (Int64.toInt_inj.mp q)
theorem own_32 {m : Int32} (hb : 0 ≤ m.toInt ∧ m.toInt < 32) (z1 : m &&& (1 : Int32) = 0) (z2 : m &&& (2 : Int32) = 0) (z3 : m &&& (4 : Int32) = 0) (z4 : m &&& (8 : Int32) = 0) (z5 : m &&& (16 : Int32) = 0) : m = 0 := by
  obtain ⟨i, hi, rfl⟩ : ∃ i : Fin 32, m.toInt = (i.1 : Int) ∧ m = Int32.ofNat i.1 := by
    refine ⟨⟨m.toInt.toNat, by omega⟩, ?_, ?_⟩
    · show m.toInt = ((m.toInt.toNat : Nat) : Int)
      omega
    · refine Int32.toInt_inj.mp ?_
      show m.toInt = (Int32.ofNat m.toInt.toNat).toInt
      rw [Int32.toInt_ofNat_of_lt (by omega)]
      omega
  revert z1 z2 z3 z4 z5
  clear hb hi
  revert i
  decide
theorem own_odd (x : Int) (k : Nat) (hk : k < 64) (hx : x % 2 = 1) : ¬ (x * ((2 ^ k : Nat) : Int)) % 18446744073709551616 = 0 := by
  intro h
  have e : (18446744073709551616 : Int) = ((2 ^ k : Nat) : Int) * ((2 ^ (64 - k) : Nat) : Int) := by
    rw [← Int.natCast_mul, ← Nat.pow_add, show k + (64 - k) = 64 from by omega]
    rfl
  obtain ⟨c, hc⟩ := Int.dvd_of_emod_eq_zero h
  rw [e, Int.mul_assoc, Int.mul_comm x] at hc
  have p : ((2 ^ k : Nat) : Int) ≠ 0 := by
    have := Nat.two_pow_pos k
    omega
  have q := Int.eq_of_mul_eq_mul_left p hc
  have r : ((2 ^ (64 - k) : Nat) : Int) = 2 * ((2 ^ (63 - k) : Nat) : Int) := by
    rw [show 64 - k = (63 - k) + 1 from by omega, Nat.pow_succ, Int.natCast_mul]
    generalize ((2 ^ (63 - k) : Nat) : Int) = P
    omega
  rw [q, r, Int.mul_assoc] at hx
  generalize ((2 ^ (63 - k) : Nat) : Int) * c = P at *
  omega
theorem own_or1 (x : Int32) : (x ||| (1 : Int32)).toInt % 2 = 1 := by
  rw [par]
  have e : (x ||| (1 : Int32)).toBitVec.toNat = x.toBitVec.toNat ||| 1 := by
    show (x.toBitVec ||| (1 : Int32).toBitVec).toNat = _
    rw [BitVec.toNat_or]
    rfl
  rw [e]
  have : (x.toBitVec.toNat ||| 1) % 2 = 1 := by
    have h : (x.toBitVec.toNat ||| 1) % 2 ^ 1 = (x.toBitVec.toNat % 2 ^ 1) ||| (1 % 2 ^ 1) := Nat.or_mod_two_pow
    have h' : (x.toBitVec.toNat ||| 1) % 2 = (x.toBitVec.toNat % 2) ||| 1 := h
    rw [h']
    rcases Nat.mod_two_eq_zero_or_one x.toBitVec.toNat with q | q <;> rw [q] <;> rfl
  omega
theorem own_m0 {k : Int32} : ¬ (((((k.toUInt32 >>> ((7 : Int32) &&& 31).toUInt32).toInt32) ||| (1 : Int32)).toInt64) <<< ((((k.toUInt32 >>> ((26 : Int32) &&& 31).toUInt32).toInt32) &&& (63 : Int32)) &&& 0x3f).toInt64) = 0 := by
  intro h
  have a := own_or1 ((k.toUInt32 >>> ((7 : Int32) &&& 31).toUInt32).toInt32)
  have s := c_lshl (((k.toUInt32 >>> ((7 : Int32) &&& 31).toUInt32).toInt32) ||| (1 : Int32)).toInt64 (((k.toUInt32 >>> ((26 : Int32) &&& 31).toUInt32).toInt32) &&& (63 : Int32)) _ rfl
  rw [h, c_i2l] at s
  have w := own_odd (((k.toUInt32 >>> ((7 : Int32) &&& 31).toUInt32).toInt32) ||| (1 : Int32)).toInt ((((k.toUInt32 >>> ((26 : Int32) &&& 31).toUInt32).toInt32) &&& (63 : Int32)).toBitVec.toNat % 64) (Nat.mod_lt _ (by decide)) a
  have z : (0 : Int64).toInt = 0 := by decide
  rw [z] at s
  generalize (((k.toUInt32 >>> ((7 : Int32) &&& 31).toUInt32).toInt32) ||| (1 : Int32)).toInt * ((2 ^ ((((k.toUInt32 >>> ((26 : Int32) &&& 31).toUInt32).toInt32) &&& (63 : Int32)).toBitVec.toNat % 64) : Nat) : Int) = Y at *
  omega
def own_eq (a1 a2 a3 a4 a5 b1 b2 b3 b4 b5 : Int64) : Prop := a1 = b1 ∧ a2 = b2 ∧ a3 = b3 ∧ a4 = b4 ∧ a5 = b5
theorem own_eqc {a1 a2 a3 a4 a5 b1 b2 b3 b4 b5 : Int64} : own_eq a1 a2 a3 a4 a5 b1 b2 b3 b4 b5 ↔ own_eq b1 b2 b3 b4 b5 a1 a2 a3 a4 a5 :=
  ⟨fun ⟨h1, h2, h3, h4, h5⟩ => ⟨h1.symm, h2.symm, h3.symm, h4.symm, h5.symm⟩, fun ⟨h1, h2, h3, h4, h5⟩ => ⟨h1.symm, h2.symm, h3.symm, h4.symm, h5.symm⟩⟩
theorem own_xne {a m : Int64} (h : ¬ m = 0) : ¬ (a ^^^ m) = a := fun q => by
  have e : a ^^^ (a ^^^ m) = a ^^^ a := by rw [q]
  rw [← Int64.xor_assoc, Int64.xor_self, Int64.zero_xor] at e
  exact h e
theorem own_five {m : Int32} {a1 a2 a3 a4 a5 v1 v2 v3 v4 v5 : Int64} {k : Int32} (hk : k &&& (31 : Int32) = m) (h1 : v1 = a1 ↔ m &&& (1 : Int32) = 0) (h2 : v2 = a2 ↔ m &&& (2 : Int32) = 0) (h3 : v3 = a3 ↔ m &&& (4 : Int32) = 0) (h4 : v4 = a4 ↔ m &&& (8 : Int32) = 0) (h5 : v5 = a5 ↔ m &&& (16 : Int32) = 0) :
    own_eq a1 a2 a3 a4 a5 v1 v2 v3 v4 v5 ↔ m = 0 := by
  have e : (k &&& (31 : Int32)).toInt = k.toInt % 32 := c_mask k 31 5 (by decide) (by decide)
  rw [hk] at e
  constructor
  · rintro ⟨r1, r2, r3, r4, r5⟩
    have z1 := h1.mp r1.symm
    have z2 := h2.mp r2.symm
    have z3 := h3.mp r3.symm
    have z4 := h4.mp r4.symm
    have z5 := h5.mp r5.symm
    have hb : 0 ≤ m.toInt ∧ m.toInt < 32 := by omega
    exact own_32 hb z1 z2 z3 z4 z5
  · intro h
    refine ⟨(h1.mpr ?_).symm, (h2.mpr ?_).symm, (h3.mpr ?_).symm, (h4.mpr ?_).symm, (h5.mpr ?_).symm⟩ <;> rw [h] <;> decide
theorem own_nosub {Z : State} {a0 : Array Value} (hw : ∀ d ∈ tables_1, d.before a0 Z = true) : ∃ c t, Z.vm.findClass "java/lang/Long" = some c ∧ Z.vm.findClass "com/example/expire_then_sweep/expirethensweep/model/ContainerStats" = some t ∧ Z.vm.assignable c t = false := by
  obtain ⟨t, kt, t1, t2, t3, t4, -⟩ := Cond.instantiable_spec (hw _ (List.mem_of_getElem? (i := 1) rfl))
  obtain ⟨c, hc⟩ := found_sup (hw _ (List.mem_of_getElem? (i := 47) rfl))
  obtain ⟨n, kc, kn, n1, n2, n3, n4, n5, n6, n7⟩ := Cond.superclass_spec hc (hw _ (List.mem_of_getElem? (i := 47) rfl))
  obtain ⟨o, kn', ko, o1, o2, o3, o4, o5, o6, o7⟩ := Cond.superclass_spec n1 (hw _ (List.mem_of_getElem? (i := 48) rfl))
  obtain ⟨o', ko', p1, p2, p3, -, -⟩ := Cond.noSuperclass_spec (hw _ (List.mem_of_getElem? (i := 49) rfl))
  cases o1.symm.trans p1
  have e1 : c ≠ t := ids_ne hc t1 (by decide)
  have e2 : n ≠ t := ids_ne n1 t1 (by decide)
  have e3 : o ≠ t := ids_ne o1 t1 (by decide)
  have hi : kt.isInterface = false := by cases hq : kt.isInterface <;> simp [hq] at t4 ⊢
  have s3 : ∀ f, Z.vm.isSubclassAux f o t = false := fun f => by cases f <;> simp [Vm.isSubclassAux, e3, p2, p3]
  have s2 : ∀ f, Z.vm.isSubclassAux f n t = false := fun f => by cases f <;> simp [Vm.isSubclassAux, e2, o2, o4, s3]
  have s1 : ∀ f, Z.vm.isSubclassAux f c t = false := fun f => by cases f <;> simp [Vm.isSubclassAux, e1, n2, n4, s2]
  refine ⟨c, t, hc, t1, ?_⟩
  show Z.vm.assignableAux (255 + 1) c t = false
  simp [Vm.assignableAux, e1, n2, t2, n5, t3, hi, Vm.isSubclass, s1]
theorem own_ci {q : Int64} (h1 : ¬ q < (-128 : Int64)) (h2 : ¬ (127 : Int64) < q) : 0 ≤ (q.toInt32 + (128 : Int32)).toInt ∧ (q.toInt32 + (128 : Int32)).toInt < 256 := by
  have a : (-128 : Int) ≤ q.toInt := own_nltL h1
  have b : q.toInt ≤ (127 : Int) := own_nltL h2
  have c := c_l2i q
  have d := c_iadd q.toInt32 128
  have t : (128 : Int32).toInt = 128 := by decide
  have r1 := rng32 q.toInt32
  have r2 := rng32 (q.toInt32 + 128)
  rw [t] at d
  omega
theorem own_cache {args : Array Value} {s : State} {t : Term} {D : Jvm.Cond} {a : Addr} {cl : Cell} (ev : ∀ idx, t.eval args s none idx s = some (.ref a)) (A : Arr s s.heap a cl (.object "java/lang/Long")) (hl : (Jvm.Cond.eq (Term.length t) (Term.int (256 : Int32))).value args s none s [] = some true)
    (hall : (Jvm.Cond.all t (Jvm.Cond.and (Jvm.Cond.exactly (Term.elem t (Term.index 0)) "java/lang/Long") D)).value args s none s [] = some true) : ∃ cl : Cell, Arr s s.heap a cl (.object "java/lang/Long") ∧ cl.slots.size = 256 ∧ ∀ j, j < 256 → ∃ w, cl.slots[j]? = some (.ref w) ∧ Exa s s.heap w "java/lang/Long" := by
  have hat : s.arrayAt? a = some cl := Arr.fin (State.Warmed39.refl s).alike A
  obtain ⟨x, y, e1, e2, -, -⟩ := cmp_v (Or.inl hl)
  obtain ⟨a', cl', l1, l2, rfl⟩ := Term.length_spec e1
  cases (ev []).symm.trans l1
  cases hat.symm.trans l2
  have hs : cl.slots.size < 2 ^ 31 := by
    rcases Nat.lt_or_ge cl.slots.size (2 ^ 31) with q | q
    · exact q
    · simp [Term.eval, ev, hat, Nat.not_lt.mpr q] at e1
  have hz : cl.slots.size.toInt32 = (256 : Int32) := by simpa [Cond.value, Term.eval, ev, hat, hs] using hl
  have sz : cl.slots.size = 256 := by
    have q := len_toInt hs
    rw [hz] at q
    have q' : (256 : Int) = (cl.slots.size : Int) := q
    omega
  refine ⟨cl, A, sz, fun j hj => ?_⟩
  obtain ⟨v1, -⟩ := and_e (Cond.all_elim (ev []) hat hall j (by omega))
  obtain ⟨w, c, cell, k, x1, x2, x3, x4, x5, x6, x7⟩ := Cond.exactly_spec (beq_iff_eq.mpr v1 : (Jvm.Cond.exactly (Term.elem t (Term.index 0)) "java/lang/Long").holds args s none s [j] = true)
  have hj' : (Term.index 0).eval args s none [j] s = some (.int j.toInt32) := rfl
  have q := (elem_in x1 (ev [j]) hj' A.1).2
  have cj : j.toInt32.toNatClampNeg = j := own_cl (len_toInt (by omega))
  rw [cj] at q
  subst x6
  exact ⟨w, q, cell, k, x3, x2, x4, x5, x7⟩
theorem d1_0 : decode prog_6_method_1_code 0 = .ok (.aload_n 0, 1) := by decide +kernel
theorem d1_1 : decode prog_6_method_1_code 1 = .ok (.invokespecial 1, 3) := by decide +kernel
theorem d1_4 : decode prog_6_method_1_code 4 = .ok (.aload_n 0, 1) := by decide +kernel
theorem d1_5 : decode prog_6_method_1_code 5 = .ok (.lload_n 1, 1) := by decide +kernel
theorem d1_6 : decode prog_6_method_1_code 6 = .ok (.putfield 7, 3) := by decide +kernel
theorem d1_9 : decode prog_6_method_1_code 9 = .ok (.aload_n 0, 1) := by decide +kernel
theorem d1_10 : decode prog_6_method_1_code 10 = .ok (.lload_n 3, 1) := by decide +kernel
theorem d1_11 : decode prog_6_method_1_code 11 = .ok (.putfield 13, 3) := by decide +kernel
theorem d1_14 : decode prog_6_method_1_code 14 = .ok (.aload_n 0, 1) := by decide +kernel
theorem d1_15 : decode prog_6_method_1_code 15 = .ok (.lload 5, 2) := by decide +kernel
theorem d1_17 : decode prog_6_method_1_code 17 = .ok (.putfield 16, 3) := by decide +kernel
theorem d1_20 : decode prog_6_method_1_code 20 = .ok (.aload_n 0, 1) := by decide +kernel
theorem d1_21 : decode prog_6_method_1_code 21 = .ok (.lload 7, 2) := by decide +kernel
theorem d1_23 : decode prog_6_method_1_code 23 = .ok (.putfield 19, 3) := by decide +kernel
theorem d1_26 : decode prog_6_method_1_code 26 = .ok (.aload_n 0, 1) := by decide +kernel
theorem d1_27 : decode prog_6_method_1_code 27 = .ok (.lload 9, 2) := by decide +kernel
theorem d1_29 : decode prog_6_method_1_code 29 = .ok (.putfield 22, 3) := by decide +kernel
theorem d1_32 : decode prog_6_method_1_code 32 = .ok (.return_, 1) := by decide +kernel
theorem pn_1 : plainName "com/example/expire_then_sweep/expirethensweep/model/ContainerStats" = true := by first | (simp [plainName, overriddenIn]; done) | decide +kernel
theorem ef_1 (m : MethodId) (x0 : Addr) (x1 : Int64) (x2 : Int64) (x3 : Int64) (x4 : Int64) (x5 : Int64) : entryFrame m #[(.ref x0), (.long x1), (.long x2), (.long x3), (.long x4), (.long x5)] 11 = mkF m 0 #[.val (.ref x0), .val (.long x1), .second, .val (.long x2), .second, .val (.long x3), .second, .val (.long x4), .second, .val (.long x5), .second] [] := by first | (simp [entryFrame, mkF, argsToLocals, Value.category]; done) | rfl
def Q1 (Z : State) (a1 : Addr) (q2 : Int64) (q3 : Int64) (q4 : Int64) (q5 : Int64) (q6 : Int64) (h0 : Heap) (n0 : Nat) (v : Option Value) (h : Heap) (L : List Loc) : Prop := v = none ∧ Fr n0 L ∧ Keep h0 h [a1] ∧ (Exa Z h a1 "com/example/expire_then_sweep/expirethensweep/model/ContainerStats") ∧ (Fld Z h a1 "com/example/expire_then_sweep/expirethensweep/model/ContainerStats" "storedItems" "J" (.long q2)) ∧ (Fld Z h a1 "com/example/expire_then_sweep/expirethensweep/model/ContainerStats" "liveItems" "J" (.long q3)) ∧ (Fld Z h a1 "com/example/expire_then_sweep/expirethensweep/model/ContainerStats" "sweptItems" "J" (.long q4)) ∧ (Fld Z h a1 "com/example/expire_then_sweep/expirethensweep/model/ContainerStats" "userUnits" "J" (.long q5)) ∧ (Fld Z h a1 "com/example/expire_then_sweep/expirethensweep/model/ContainerStats" "sweepUnits" "J" (.long q6))
set_option maxRecDepth 65536 in
set_option maxHeartbeats 40000000 in
theorem rm1 (l : Launch) (Z : State) (a0 : Array Value) (hw : ∀ d ∈ tables_1, d.before a0 Z = true) (ws : List Jvm.Cond) (a1 : Addr) (q2 : Int64) (q3 : Int64) (q4 : Int64) (q5 : Int64) (q6 : Int64) (h0 : Heap) (n0 : Nat) (Z0 : n0 ≤ h0.size) (g_a1 : n0 ≤ a1) (P0 : Exa Z h0 a1 "com/example/expire_then_sweep/expirethensweep/model/ContainerStats") (P1 : Fld Z h0 a1 "com/example/expire_then_sweep/expirethensweep/model/ContainerStats" "storedItems" "J" (.long (0 : Int64))) (P2 : Fld Z h0 a1 "com/example/expire_then_sweep/expirethensweep/model/ContainerStats" "liveItems" "J" (.long (0 : Int64))) (P3 : Fld Z h0 a1 "com/example/expire_then_sweep/expirethensweep/model/ContainerStats" "sweptItems" "J" (.long (0 : Int64))) (P4 : Fld Z h0 a1 "com/example/expire_then_sweep/expirethensweep/model/ContainerStats" "userUnits" "J" (.long (0 : Int64))) (P5 : Fld Z h0 a1 "com/example/expire_then_sweep/expirethensweep/model/ContainerStats" "sweepUnits" "J" (.long (0 : Int64))) :
    MetFree l (⟨"com/example/expire_then_sweep/expirethensweep/model/ContainerStats", "<init>", "(JJJJJ)V"⟩ : MethodName) (head1 (Jvm.Cond.code (⟨"com/example/expire_then_sweep/expirethensweep/model/ContainerStats", "<init>", "(JJJJJ)V"⟩ : MethodName) prog_6_method_1_code 11 none :: ws) ({ frames := 1, cells := 0, slots := 0, locals := 12 } : Room)) (fun a U => a = #[(.ref a1), (.long q2), (.long q3), (.long q4), (.long q5), (.long q6)] ∧ Z.Warmed39 U.vm ∧ U.heap = h0) (fun _ _ _ _ _ => True) (fun _ U o U' => ∃ v L, o = .returned v ∧ Q1 Z a1 q2 q3 q4 q5 q6 h0 n0 v U'.heap L ∧ FrameEnd U o U' L ({ frames := 1, cells := 0, slots := 0, locals := 12 } : Room).cells ({ frames := 1, cells := 0, slots := 0, locals := 12 } : Room).slots) := by
  refine MetFree.of_bodySF (plainFor_of_name pn_1) hisR ?_
  intro p e s m args below meth c s₁ Bd hml0 hP hK
  obtain ⟨rfl, hZ, hh⟩ := hP
  have hx := Bd.exec
  have hby := Bd.bytes
  have hml : c.maxLocals = 11 := hml0
  have hown : s.vm.findClass "com/example/expire_then_sweep/expirethensweep/model/ContainerStats" = some m.cls := findClass_of_methodNamed Bd.named
  have hnm := (name_of_methodNamed Bd.named Bd.method).1
  have X0 : Stand p l e ({ frames := 1, cells := 0, slots := 0, locals := 12 } : Room) s m #[(.ref a1), (.long q2), (.long q3), (.long q4), (.long q5), (.long q6)] below meth c s₁ [] 0 0 := Stand.of_body Bd
  have e0 : s₁.heap = h0 := by rw [← hh, Bd.state]; rfl
  have N0 := Fr.nil n0
  suffices G0 : ∀ K : State → Prop, (∀ (n : State) (v : Option Value) (L : List Loc), n.status = .running → Ended n below (.returned v) → Q1 Z a1 q2 q3 q4 q5 q6 h0 n0 v n.heap L → FrameEnd s (.returned v) n L ({ frames := 1, cells := 0, slots := 0, locals := 12 } : Room).cells ({ frames := 1, cells := 0, slots := 0, locals := 12 } : Room).slots → K n) → own_Go p e below K (s₁.setTop (mkF m 0 #[.val (.ref a1), .val (.long q2), .second, .val (.long q3), .second, .val (.long q4), .second, .val (.long q5), .second, .val (.long q6), .second] [])) by
    obtain ⟨t, st, o, a, b, v, L, e1, q, fe⟩ := G0 (fun n => ∃ o, n.status = .running ∧ Ended n below o ∧ ∃ v L, o = .returned v ∧ Q1 Z a1 q2 q3 q4 q5 q6 h0 n0 v n.heap L ∧ FrameEnd s o n L ({ frames := 1, cells := 0, slots := 0, locals := 12 } : Room).cells ({ frames := 1, cells := 0, slots := 0, locals := 12 } : Room).slots) (fun n v L a b q f => ⟨_, a, b, v, L, rfl, q, f⟩)
    exact ⟨t, o, castTop (ef_1 m a1 q2 q3 q4 q5 q6) st, a, b, v, L, e1, q, fe⟩
  intro K fin
  show own_Go p e below K (s₁.setTop (mkF m 0 #[.val (.ref a1), .val (.long q2), .second, .val (.long q3), .second, .val (.long q4), .second, .val (.long q5), .second, .val (.long q6), .second] []))
  refine own_st (fun t k => XS.aloadN X0.here hx rfl (hb hby d1_0) rfl rfl k) ?_
  show own_Go p e below K (s₁.setTop (mkF m 1 #[.val (.ref a1), .val (.long q2), .second, .val (.long q3), .second, .val (.long q4), .second, .val (.long q5), .second, .val (.long q6), .second] [(.ref a1)]))
  obtain ⟨T1, X1, e1, st1⟩ := initO X0 hx hZ hown (hw _ (List.mem_of_getElem? (i := 6) rfl)) (hw _ (List.mem_of_getElem? (i := 7) rfl)) (hw _ (List.mem_of_getElem? (i := 8) rfl)) e0 (g := (mkF m 1 #[.val (.ref a1), .val (.long q2), .second, .val (.long q3), .second, .val (.long q4), .second, .val (.long q5), .second, .val (.long q6), .second] [(.ref a1)])) rfl (by rw [hml]; rfl) rfl (hb hby d1_1) (by decide) (W := 0) (by show 2 * 0 + _ ≤ _; exact Nat.le_of_eq rfl) (by decide)
  refine own_st st1 ?_
  show own_Go p e below K (T1.setTop (mkF m 4 #[.val (.ref a1), .val (.long q2), .second, .val (.long q3), .second, .val (.long q4), .second, .val (.long q5), .second, .val (.long q6), .second] []))
  refine own_st (fun t k => XS.aloadN X1.here hx rfl (hb hby d1_4) rfl rfl k) ?_
  show own_Go p e below K (T1.setTop (mkF m 5 #[.val (.ref a1), .val (.long q2), .second, .val (.long q3), .second, .val (.long q4), .second, .val (.long q5), .second, .val (.long q6), .second] [(.ref a1)]))
  refine own_st (fun t k => XS.lloadN X1.here hx rfl (hb hby d1_5) rfl k) ?_
  show own_Go p e below K (T1.setTop (mkF m 6 #[.val (.ref a1), .val (.long q2), .second, .val (.long q3), .second, .val (.long q4), .second, .val (.long q5), .second, .val (.long q6), .second] [(.long q2), (.ref a1)]))
  obtain ⟨T2, h2, X2, e2, W2, st2⟩ := putF X1 hx hZ hown (host := "") (Or.inl (hw _ (List.mem_of_getElem? (i := 9) rfl))) Via.refl e1 P1 P0 (Or.inr ⟨(hw _ (List.mem_of_getElem? (i := 10) rfl)), rfl, hnm⟩) (hw _ (List.mem_of_getElem? (i := 1) rfl)) (ty := .long) (by decide) rfl rfl (g := (mkF m 6 #[.val (.ref a1), .val (.long q2), .second, .val (.long q3), .second, .val (.long q4), .second, .val (.long q5), .second, .val (.long q6), .second] [(.long q2), (.ref a1)])) rfl rfl (hb hby d1_6)
  have fw2 : Fld Z h2 a1 "com/example/expire_then_sweep/expirethensweep/model/ContainerStats" "storedItems" "J" (.long q2) := P1.same W2
  have f3 : Exa Z h2 a1 "com/example/expire_then_sweep/expirethensweep/model/ContainerStats" := P0.wr W2
  have f4 : Fld Z h2 a1 "com/example/expire_then_sweep/expirethensweep/model/ContainerStats" "liveItems" "J" (.long (0 : Int64)) := P2.other W2 (Or.inr (slot_ne (Or.inr (hw _ (List.mem_of_getElem? (i := 12) rfl))) (Or.inr (hw _ (List.mem_of_getElem? (i := 10) rfl))) (by decide) (t := .long) (t' := .long) (by decide) (by decide)))
  have f5 : Fld Z h2 a1 "com/example/expire_then_sweep/expirethensweep/model/ContainerStats" "sweptItems" "J" (.long (0 : Int64)) := P3.other W2 (Or.inr (slot_ne (Or.inr (hw _ (List.mem_of_getElem? (i := 14) rfl))) (Or.inr (hw _ (List.mem_of_getElem? (i := 10) rfl))) (by decide) (t := .long) (t' := .long) (by decide) (by decide)))
  have f6 : Fld Z h2 a1 "com/example/expire_then_sweep/expirethensweep/model/ContainerStats" "userUnits" "J" (.long (0 : Int64)) := P4.other W2 (Or.inr (slot_ne (Or.inr (hw _ (List.mem_of_getElem? (i := 16) rfl))) (Or.inr (hw _ (List.mem_of_getElem? (i := 10) rfl))) (by decide) (t := .long) (t' := .long) (by decide) (by decide)))
  have f7 : Fld Z h2 a1 "com/example/expire_then_sweep/expirethensweep/model/ContainerStats" "sweepUnits" "J" (.long (0 : Int64)) := P5.other W2 (Or.inr (slot_ne (Or.inr (hw _ (List.mem_of_getElem? (i := 18) rfl))) (Or.inr (hw _ (List.mem_of_getElem? (i := 10) rfl))) (by decide) (t := .long) (t' := .long) (by decide) (by decide)))
  have N2 := Fr.snoc X2 N0 g_a1
  have Z2 : n0 ≤ h2.size := Nat.le_trans Z0 (Keep.of_wr W2).1
  have K2 : Keep h0 h2 [a1] := (Keep.refl h0 [a1]).wr W2 (Or.inl (List.mem_of_getElem? (i := 0) rfl))
  refine own_st st2 ?_
  show own_Go p e below K (T2.setTop (mkF m 9 #[.val (.ref a1), .val (.long q2), .second, .val (.long q3), .second, .val (.long q4), .second, .val (.long q5), .second, .val (.long q6), .second] []))
  refine own_st (fun t k => XS.aloadN X2.here hx rfl (hb hby d1_9) rfl rfl k) ?_
  show own_Go p e below K (T2.setTop (mkF m 10 #[.val (.ref a1), .val (.long q2), .second, .val (.long q3), .second, .val (.long q4), .second, .val (.long q5), .second, .val (.long q6), .second] [(.ref a1)]))
  refine own_st (fun t k => XS.lloadN X2.here hx rfl (hb hby d1_10) rfl k) ?_
  show own_Go p e below K (T2.setTop (mkF m 11 #[.val (.ref a1), .val (.long q2), .second, .val (.long q3), .second, .val (.long q4), .second, .val (.long q5), .second, .val (.long q6), .second] [(.long q3), (.ref a1)]))
  obtain ⟨T8, h8, X8, e8, W8, st8⟩ := putF X2 hx hZ hown (host := "") (Or.inl (hw _ (List.mem_of_getElem? (i := 11) rfl))) Via.refl e2 f4 f3 (Or.inr ⟨(hw _ (List.mem_of_getElem? (i := 12) rfl)), rfl, hnm⟩) (hw _ (List.mem_of_getElem? (i := 1) rfl)) (ty := .long) (by decide) rfl rfl (g := (mkF m 11 #[.val (.ref a1), .val (.long q2), .second, .val (.long q3), .second, .val (.long q4), .second, .val (.long q5), .second, .val (.long q6), .second] [(.long q3), (.ref a1)])) rfl rfl (hb hby d1_11)
  have fw8 : Fld Z h8 a1 "com/example/expire_then_sweep/expirethensweep/model/ContainerStats" "liveItems" "J" (.long q3) := f4.same W8
  have f9 : Exa Z h8 a1 "com/example/expire_then_sweep/expirethensweep/model/ContainerStats" := f3.wr W8
  have f10 : Fld Z h8 a1 "com/example/expire_then_sweep/expirethensweep/model/ContainerStats" "storedItems" "J" (.long q2) := fw2.other W8 (Or.inr (slot_ne (Or.inr (hw _ (List.mem_of_getElem? (i := 10) rfl))) (Or.inr (hw _ (List.mem_of_getElem? (i := 12) rfl))) (by decide) (t := .long) (t' := .long) (by decide) (by decide)))
  have f11 : Fld Z h8 a1 "com/example/expire_then_sweep/expirethensweep/model/ContainerStats" "sweptItems" "J" (.long (0 : Int64)) := f5.other W8 (Or.inr (slot_ne (Or.inr (hw _ (List.mem_of_getElem? (i := 14) rfl))) (Or.inr (hw _ (List.mem_of_getElem? (i := 12) rfl))) (by decide) (t := .long) (t' := .long) (by decide) (by decide)))
  have f12 : Fld Z h8 a1 "com/example/expire_then_sweep/expirethensweep/model/ContainerStats" "userUnits" "J" (.long (0 : Int64)) := f6.other W8 (Or.inr (slot_ne (Or.inr (hw _ (List.mem_of_getElem? (i := 16) rfl))) (Or.inr (hw _ (List.mem_of_getElem? (i := 12) rfl))) (by decide) (t := .long) (t' := .long) (by decide) (by decide)))
  have f13 : Fld Z h8 a1 "com/example/expire_then_sweep/expirethensweep/model/ContainerStats" "sweepUnits" "J" (.long (0 : Int64)) := f7.other W8 (Or.inr (slot_ne (Or.inr (hw _ (List.mem_of_getElem? (i := 18) rfl))) (Or.inr (hw _ (List.mem_of_getElem? (i := 12) rfl))) (by decide) (t := .long) (t' := .long) (by decide) (by decide)))
  have N8 := Fr.snoc X8 N2 g_a1
  have Z8 : n0 ≤ h8.size := Nat.le_trans Z2 (Keep.of_wr W8).1
  have K8 : Keep h0 h8 [a1] := K2.wr W8 (Or.inl (List.mem_of_getElem? (i := 0) rfl))
  refine own_st st8 ?_
  show own_Go p e below K (T8.setTop (mkF m 14 #[.val (.ref a1), .val (.long q2), .second, .val (.long q3), .second, .val (.long q4), .second, .val (.long q5), .second, .val (.long q6), .second] []))
  refine own_st (fun t k => XS.aloadN X8.here hx rfl (hb hby d1_14) rfl rfl k) ?_
  show own_Go p e below K (T8.setTop (mkF m 15 #[.val (.ref a1), .val (.long q2), .second, .val (.long q3), .second, .val (.long q4), .second, .val (.long q5), .second, .val (.long q6), .second] [(.ref a1)]))
  refine own_st (fun t k => XS.lload X8.here hx rfl (hb hby d1_15) rfl k) ?_
  show own_Go p e below K (T8.setTop (mkF m 17 #[.val (.ref a1), .val (.long q2), .second, .val (.long q3), .second, .val (.long q4), .second, .val (.long q5), .second, .val (.long q6), .second] [(.long q4), (.ref a1)]))
  obtain ⟨T14, h14, X14, e14, W14, st14⟩ := putF X8 hx hZ hown (host := "") (Or.inl (hw _ (List.mem_of_getElem? (i := 13) rfl))) Via.refl e8 f11 f9 (Or.inr ⟨(hw _ (List.mem_of_getElem? (i := 14) rfl)), rfl, hnm⟩) (hw _ (List.mem_of_getElem? (i := 1) rfl)) (ty := .long) (by decide) rfl rfl (g := (mkF m 17 #[.val (.ref a1), .val (.long q2), .second, .val (.long q3), .second, .val (.long q4), .second, .val (.long q5), .second, .val (.long q6), .second] [(.long q4), (.ref a1)])) rfl rfl (hb hby d1_17)
  have fw14 : Fld Z h14 a1 "com/example/expire_then_sweep/expirethensweep/model/ContainerStats" "sweptItems" "J" (.long q4) := f11.same W14
  have f15 : Exa Z h14 a1 "com/example/expire_then_sweep/expirethensweep/model/ContainerStats" := f9.wr W14
  have f16 : Fld Z h14 a1 "com/example/expire_then_sweep/expirethensweep/model/ContainerStats" "storedItems" "J" (.long q2) := f10.other W14 (Or.inr (slot_ne (Or.inr (hw _ (List.mem_of_getElem? (i := 10) rfl))) (Or.inr (hw _ (List.mem_of_getElem? (i := 14) rfl))) (by decide) (t := .long) (t' := .long) (by decide) (by decide)))
  have f17 : Fld Z h14 a1 "com/example/expire_then_sweep/expirethensweep/model/ContainerStats" "liveItems" "J" (.long q3) := fw8.other W14 (Or.inr (slot_ne (Or.inr (hw _ (List.mem_of_getElem? (i := 12) rfl))) (Or.inr (hw _ (List.mem_of_getElem? (i := 14) rfl))) (by decide) (t := .long) (t' := .long) (by decide) (by decide)))
  have f18 : Fld Z h14 a1 "com/example/expire_then_sweep/expirethensweep/model/ContainerStats" "userUnits" "J" (.long (0 : Int64)) := f12.other W14 (Or.inr (slot_ne (Or.inr (hw _ (List.mem_of_getElem? (i := 16) rfl))) (Or.inr (hw _ (List.mem_of_getElem? (i := 14) rfl))) (by decide) (t := .long) (t' := .long) (by decide) (by decide)))
  have f19 : Fld Z h14 a1 "com/example/expire_then_sweep/expirethensweep/model/ContainerStats" "sweepUnits" "J" (.long (0 : Int64)) := f13.other W14 (Or.inr (slot_ne (Or.inr (hw _ (List.mem_of_getElem? (i := 18) rfl))) (Or.inr (hw _ (List.mem_of_getElem? (i := 14) rfl))) (by decide) (t := .long) (t' := .long) (by decide) (by decide)))
  have N14 := Fr.snoc X14 N8 g_a1
  have Z14 : n0 ≤ h14.size := Nat.le_trans Z8 (Keep.of_wr W14).1
  have K14 : Keep h0 h14 [a1] := K8.wr W14 (Or.inl (List.mem_of_getElem? (i := 0) rfl))
  refine own_st st14 ?_
  show own_Go p e below K (T14.setTop (mkF m 20 #[.val (.ref a1), .val (.long q2), .second, .val (.long q3), .second, .val (.long q4), .second, .val (.long q5), .second, .val (.long q6), .second] []))
  refine own_st (fun t k => XS.aloadN X14.here hx rfl (hb hby d1_20) rfl rfl k) ?_
  show own_Go p e below K (T14.setTop (mkF m 21 #[.val (.ref a1), .val (.long q2), .second, .val (.long q3), .second, .val (.long q4), .second, .val (.long q5), .second, .val (.long q6), .second] [(.ref a1)]))
  refine own_st (fun t k => XS.lload X14.here hx rfl (hb hby d1_21) rfl k) ?_
  show own_Go p e below K (T14.setTop (mkF m 23 #[.val (.ref a1), .val (.long q2), .second, .val (.long q3), .second, .val (.long q4), .second, .val (.long q5), .second, .val (.long q6), .second] [(.long q5), (.ref a1)]))
  obtain ⟨T20, h20, X20, e20, W20, st20⟩ := putF X14 hx hZ hown (host := "") (Or.inl (hw _ (List.mem_of_getElem? (i := 15) rfl))) Via.refl e14 f18 f15 (Or.inr ⟨(hw _ (List.mem_of_getElem? (i := 16) rfl)), rfl, hnm⟩) (hw _ (List.mem_of_getElem? (i := 1) rfl)) (ty := .long) (by decide) rfl rfl (g := (mkF m 23 #[.val (.ref a1), .val (.long q2), .second, .val (.long q3), .second, .val (.long q4), .second, .val (.long q5), .second, .val (.long q6), .second] [(.long q5), (.ref a1)])) rfl rfl (hb hby d1_23)
  have fw20 : Fld Z h20 a1 "com/example/expire_then_sweep/expirethensweep/model/ContainerStats" "userUnits" "J" (.long q5) := f18.same W20
  have f21 : Exa Z h20 a1 "com/example/expire_then_sweep/expirethensweep/model/ContainerStats" := f15.wr W20
  have f22 : Fld Z h20 a1 "com/example/expire_then_sweep/expirethensweep/model/ContainerStats" "storedItems" "J" (.long q2) := f16.other W20 (Or.inr (slot_ne (Or.inr (hw _ (List.mem_of_getElem? (i := 10) rfl))) (Or.inr (hw _ (List.mem_of_getElem? (i := 16) rfl))) (by decide) (t := .long) (t' := .long) (by decide) (by decide)))
  have f23 : Fld Z h20 a1 "com/example/expire_then_sweep/expirethensweep/model/ContainerStats" "liveItems" "J" (.long q3) := f17.other W20 (Or.inr (slot_ne (Or.inr (hw _ (List.mem_of_getElem? (i := 12) rfl))) (Or.inr (hw _ (List.mem_of_getElem? (i := 16) rfl))) (by decide) (t := .long) (t' := .long) (by decide) (by decide)))
  have f24 : Fld Z h20 a1 "com/example/expire_then_sweep/expirethensweep/model/ContainerStats" "sweptItems" "J" (.long q4) := fw14.other W20 (Or.inr (slot_ne (Or.inr (hw _ (List.mem_of_getElem? (i := 14) rfl))) (Or.inr (hw _ (List.mem_of_getElem? (i := 16) rfl))) (by decide) (t := .long) (t' := .long) (by decide) (by decide)))
  have f25 : Fld Z h20 a1 "com/example/expire_then_sweep/expirethensweep/model/ContainerStats" "sweepUnits" "J" (.long (0 : Int64)) := f19.other W20 (Or.inr (slot_ne (Or.inr (hw _ (List.mem_of_getElem? (i := 18) rfl))) (Or.inr (hw _ (List.mem_of_getElem? (i := 16) rfl))) (by decide) (t := .long) (t' := .long) (by decide) (by decide)))
  have N20 := Fr.snoc X20 N14 g_a1
  have Z20 : n0 ≤ h20.size := Nat.le_trans Z14 (Keep.of_wr W20).1
  have K20 : Keep h0 h20 [a1] := K14.wr W20 (Or.inl (List.mem_of_getElem? (i := 0) rfl))
  refine own_st st20 ?_
  show own_Go p e below K (T20.setTop (mkF m 26 #[.val (.ref a1), .val (.long q2), .second, .val (.long q3), .second, .val (.long q4), .second, .val (.long q5), .second, .val (.long q6), .second] []))
  refine own_st (fun t k => XS.aloadN X20.here hx rfl (hb hby d1_26) rfl rfl k) ?_
  show own_Go p e below K (T20.setTop (mkF m 27 #[.val (.ref a1), .val (.long q2), .second, .val (.long q3), .second, .val (.long q4), .second, .val (.long q5), .second, .val (.long q6), .second] [(.ref a1)]))
  refine own_st (fun t k => XS.lload X20.here hx rfl (hb hby d1_27) rfl k) ?_
  show own_Go p e below K (T20.setTop (mkF m 29 #[.val (.ref a1), .val (.long q2), .second, .val (.long q3), .second, .val (.long q4), .second, .val (.long q5), .second, .val (.long q6), .second] [(.long q6), (.ref a1)]))
  obtain ⟨T26, h26, X26, e26, W26, st26⟩ := putF X20 hx hZ hown (host := "") (Or.inl (hw _ (List.mem_of_getElem? (i := 17) rfl))) Via.refl e20 f25 f21 (Or.inr ⟨(hw _ (List.mem_of_getElem? (i := 18) rfl)), rfl, hnm⟩) (hw _ (List.mem_of_getElem? (i := 1) rfl)) (ty := .long) (by decide) rfl rfl (g := (mkF m 29 #[.val (.ref a1), .val (.long q2), .second, .val (.long q3), .second, .val (.long q4), .second, .val (.long q5), .second, .val (.long q6), .second] [(.long q6), (.ref a1)])) rfl rfl (hb hby d1_29)
  have fw26 : Fld Z h26 a1 "com/example/expire_then_sweep/expirethensweep/model/ContainerStats" "sweepUnits" "J" (.long q6) := f25.same W26
  have f27 : Exa Z h26 a1 "com/example/expire_then_sweep/expirethensweep/model/ContainerStats" := f21.wr W26
  have f28 : Fld Z h26 a1 "com/example/expire_then_sweep/expirethensweep/model/ContainerStats" "storedItems" "J" (.long q2) := f22.other W26 (Or.inr (slot_ne (Or.inr (hw _ (List.mem_of_getElem? (i := 10) rfl))) (Or.inr (hw _ (List.mem_of_getElem? (i := 18) rfl))) (by decide) (t := .long) (t' := .long) (by decide) (by decide)))
  have f29 : Fld Z h26 a1 "com/example/expire_then_sweep/expirethensweep/model/ContainerStats" "liveItems" "J" (.long q3) := f23.other W26 (Or.inr (slot_ne (Or.inr (hw _ (List.mem_of_getElem? (i := 12) rfl))) (Or.inr (hw _ (List.mem_of_getElem? (i := 18) rfl))) (by decide) (t := .long) (t' := .long) (by decide) (by decide)))
  have f30 : Fld Z h26 a1 "com/example/expire_then_sweep/expirethensweep/model/ContainerStats" "sweptItems" "J" (.long q4) := f24.other W26 (Or.inr (slot_ne (Or.inr (hw _ (List.mem_of_getElem? (i := 14) rfl))) (Or.inr (hw _ (List.mem_of_getElem? (i := 18) rfl))) (by decide) (t := .long) (t' := .long) (by decide) (by decide)))
  have f31 : Fld Z h26 a1 "com/example/expire_then_sweep/expirethensweep/model/ContainerStats" "userUnits" "J" (.long q5) := fw20.other W26 (Or.inr (slot_ne (Or.inr (hw _ (List.mem_of_getElem? (i := 16) rfl))) (Or.inr (hw _ (List.mem_of_getElem? (i := 18) rfl))) (by decide) (t := .long) (t' := .long) (by decide) (by decide)))
  have N26 := Fr.snoc X26 N20 g_a1
  have Z26 : n0 ≤ h26.size := Nat.le_trans Z20 (Keep.of_wr W26).1
  have K26 : Keep h0 h26 [a1] := K20.wr W26 (Or.inl (List.mem_of_getElem? (i := 0) rfl))
  refine own_st st26 ?_
  show own_Go p e below K (T26.setTop (mkF m 32 #[.val (.ref a1), .val (.long q2), .second, .val (.long q3), .second, .val (.long q4), .second, .val (.long q5), .second, .val (.long q6), .second] []))
  obtain ⟨fs, hr, hrun, hended, hW, hsame⟩ := X26.leave (v := none) (fun _ => rfl)
  refine ⟨_, X26.returnOut hx Bd.returns (hb hby d1_32) hr, fin _ _ _ hrun hended ?_ ⟨⟨_, rfl⟩, hW, hsame.mono (by decide) (by decide)⟩⟩
  show Q1 Z a1 q2 q3 q4 q5 q6 h0 n0 _ T26.heap _
  rw [e26]
  exact ⟨rfl, N26, K26, f27, f28, f29, f30, f31, fw26⟩
theorem d3_0 : decode prog_6_method_7_code 0 = .ok (.aload_n 1, 1) := by decide +kernel
theorem d3_1 : decode prog_6_method_7_code 1 = .ok (.instanceof 8, 3) := by decide +kernel
theorem d3_4 : decode prog_6_method_7_code 4 = .ok (.ifCond .eq 72, 3) := by decide +kernel
theorem d3_7 : decode prog_6_method_7_code 7 = .ok (.aload_n 1, 1) := by decide +kernel
theorem d3_8 : decode prog_6_method_7_code 8 = .ok (.checkcast 8, 3) := by decide +kernel
theorem d3_11 : decode prog_6_method_7_code 11 = .ok (.astore_n 2, 1) := by decide +kernel
theorem d3_12 : decode prog_6_method_7_code 12 = .ok (.aload_n 0, 1) := by decide +kernel
theorem d3_13 : decode prog_6_method_7_code 13 = .ok (.getfield 7, 3) := by decide +kernel
theorem d3_16 : decode prog_6_method_7_code 16 = .ok (.aload_n 2, 1) := by decide +kernel
theorem d3_17 : decode prog_6_method_7_code 17 = .ok (.getfield 7, 3) := by decide +kernel
theorem d3_20 : decode prog_6_method_7_code 20 = .ok (.lcmp, 1) := by decide +kernel
theorem d3_21 : decode prog_6_method_7_code 21 = .ok (.ifCond .ne 55, 3) := by decide +kernel
theorem d3_24 : decode prog_6_method_7_code 24 = .ok (.aload_n 0, 1) := by decide +kernel
theorem d3_25 : decode prog_6_method_7_code 25 = .ok (.getfield 13, 3) := by decide +kernel
theorem d3_28 : decode prog_6_method_7_code 28 = .ok (.aload_n 2, 1) := by decide +kernel
theorem d3_29 : decode prog_6_method_7_code 29 = .ok (.getfield 13, 3) := by decide +kernel
theorem d3_32 : decode prog_6_method_7_code 32 = .ok (.lcmp, 1) := by decide +kernel
theorem d3_33 : decode prog_6_method_7_code 33 = .ok (.ifCond .ne 43, 3) := by decide +kernel
theorem d3_36 : decode prog_6_method_7_code 36 = .ok (.aload_n 0, 1) := by decide +kernel
theorem d3_37 : decode prog_6_method_7_code 37 = .ok (.getfield 16, 3) := by decide +kernel
theorem d3_40 : decode prog_6_method_7_code 40 = .ok (.aload_n 2, 1) := by decide +kernel
theorem d3_41 : decode prog_6_method_7_code 41 = .ok (.getfield 16, 3) := by decide +kernel
theorem d3_44 : decode prog_6_method_7_code 44 = .ok (.lcmp, 1) := by decide +kernel
theorem d3_45 : decode prog_6_method_7_code 45 = .ok (.ifCond .ne 31, 3) := by decide +kernel
theorem d3_48 : decode prog_6_method_7_code 48 = .ok (.aload_n 0, 1) := by decide +kernel
theorem d3_49 : decode prog_6_method_7_code 49 = .ok (.getfield 19, 3) := by decide +kernel
theorem d3_52 : decode prog_6_method_7_code 52 = .ok (.aload_n 2, 1) := by decide +kernel
theorem d3_53 : decode prog_6_method_7_code 53 = .ok (.getfield 19, 3) := by decide +kernel
theorem d3_56 : decode prog_6_method_7_code 56 = .ok (.lcmp, 1) := by decide +kernel
theorem d3_57 : decode prog_6_method_7_code 57 = .ok (.ifCond .ne 19, 3) := by decide +kernel
theorem d3_60 : decode prog_6_method_7_code 60 = .ok (.aload_n 0, 1) := by decide +kernel
theorem d3_61 : decode prog_6_method_7_code 61 = .ok (.getfield 22, 3) := by decide +kernel
theorem d3_64 : decode prog_6_method_7_code 64 = .ok (.aload_n 2, 1) := by decide +kernel
theorem d3_65 : decode prog_6_method_7_code 65 = .ok (.getfield 22, 3) := by decide +kernel
theorem d3_68 : decode prog_6_method_7_code 68 = .ok (.lcmp, 1) := by decide +kernel
theorem d3_69 : decode prog_6_method_7_code 69 = .ok (.ifCond .ne 7, 3) := by decide +kernel
theorem d3_72 : decode prog_6_method_7_code 72 = .ok (.iconst 1, 1) := by decide +kernel
theorem d3_73 : decode prog_6_method_7_code 73 = .ok (.goto 4, 3) := by decide +kernel
theorem d3_76 : decode prog_6_method_7_code 76 = .ok (.iconst 0, 1) := by decide +kernel
theorem d3_77 : decode prog_6_method_7_code 77 = .ok (.ireturn, 1) := by decide +kernel
theorem pn_3 : plainName "com/example/expire_then_sweep/expirethensweep/model/ContainerStats" = true := by first | (simp [plainName, overriddenIn]; done) | decide +kernel
theorem ef_3 (m : MethodId) (x0 : Addr) (x1 : Addr) : entryFrame m #[(.ref x0), (.ref x1)] 3 = mkF m 0 #[.val (.ref x0), .val (.ref x1), .unset] [] := by first | (simp [entryFrame, mkF, argsToLocals, Value.category]; done) | rfl
def Q3 (Z : State) (a1 : Addr) (a2 : Addr) (u0 : Int64) (u1 : Int64) (u2 : Int64) (u3 : Int64) (u4 : Int64) (v0 : Int64) (v1 : Int64) (v2 : Int64) (v3 : Int64) (v4 : Int64) (h0 : Heap) (n0 : Nat) (v : Option Value) (h : Heap) (L : List Loc) : Prop := ∃ (r : Int32), v = some (.int r) ∧ (own_B (own_eq u0 u1 u2 u3 u4 v0 v1 v2 v3 v4) r) ∧ Fr n0 L ∧ h = h0
set_option maxRecDepth 65536 in
set_option maxHeartbeats 40000000 in
theorem rm3 (l : Launch) (Z : State) (a0 : Array Value) (hw : ∀ d ∈ tables_1, d.before a0 Z = true) (ws : List Jvm.Cond) (a1 : Addr) (a2 : Addr) (u0 : Int64) (u1 : Int64) (u2 : Int64) (u3 : Int64) (u4 : Int64) (v0 : Int64) (v1 : Int64) (v2 : Int64) (v3 : Int64) (v4 : Int64) (h0 : Heap) (n0 : Nat) (Z0 : n0 ≤ h0.size) (P0 : Fld Z h0 a1 "com/example/expire_then_sweep/expirethensweep/model/ContainerStats" "storedItems" "J" (.long u0)) (P1 : Fld Z h0 a1 "com/example/expire_then_sweep/expirethensweep/model/ContainerStats" "liveItems" "J" (.long u1)) (P2 : Fld Z h0 a1 "com/example/expire_then_sweep/expirethensweep/model/ContainerStats" "sweptItems" "J" (.long u2)) (P3 : Fld Z h0 a1 "com/example/expire_then_sweep/expirethensweep/model/ContainerStats" "userUnits" "J" (.long u3)) (P4 : Fld Z h0 a1 "com/example/expire_then_sweep/expirethensweep/model/ContainerStats" "sweepUnits" "J" (.long u4)) (P5 : Exa Z h0 a2 "com/example/expire_then_sweep/expirethensweep/model/ContainerStats") (P6 : Fld Z h0 a2 "com/example/expire_then_sweep/expirethensweep/model/ContainerStats" "storedItems" "J" (.long v0)) (P7 : Fld Z h0 a2 "com/example/expire_then_sweep/expirethensweep/model/ContainerStats" "liveItems" "J" (.long v1)) (P8 : Fld Z h0 a2 "com/example/expire_then_sweep/expirethensweep/model/ContainerStats" "sweptItems" "J" (.long v2)) (P9 : Fld Z h0 a2 "com/example/expire_then_sweep/expirethensweep/model/ContainerStats" "userUnits" "J" (.long v3)) (P10 : Fld Z h0 a2 "com/example/expire_then_sweep/expirethensweep/model/ContainerStats" "sweepUnits" "J" (.long v4)) :
    MetFree l (⟨"com/example/expire_then_sweep/expirethensweep/model/ContainerStats", "equals", "(Ljava/lang/Object;)Z"⟩ : MethodName) (head1 (Jvm.Cond.code (⟨"com/example/expire_then_sweep/expirethensweep/model/ContainerStats", "equals", "(Ljava/lang/Object;)Z"⟩ : MethodName) prog_6_method_7_code 3 (some .boolean) :: ws) ({ frames := 0, cells := 0, slots := 0, locals := 0 } : Room)) (fun a U => a = #[(.ref a1), (.ref a2)] ∧ Z.Warmed39 U.vm ∧ U.heap = h0) (fun _ _ _ _ _ => True) (fun _ U o U' => ∃ v L, o = .returned v ∧ Q3 Z a1 a2 u0 u1 u2 u3 u4 v0 v1 v2 v3 v4 h0 n0 v U'.heap L ∧ FrameEnd U o U' L ({ frames := 0, cells := 0, slots := 0, locals := 0 } : Room).cells ({ frames := 0, cells := 0, slots := 0, locals := 0 } : Room).slots) := by
  refine MetFree.of_bodySF (plainFor_of_name pn_3) hisR ?_
  intro p e s m args below meth c s₁ Bd hml0 hP hK
  obtain ⟨rfl, hZ, hh⟩ := hP
  have hx := Bd.exec
  have hby := Bd.bytes
  have hml : c.maxLocals = 3 := hml0
  have hown : s.vm.findClass "com/example/expire_then_sweep/expirethensweep/model/ContainerStats" = some m.cls := findClass_of_methodNamed Bd.named
  have hnm := (name_of_methodNamed Bd.named Bd.method).1
  have X0 : Stand p l e ({ frames := 0, cells := 0, slots := 0, locals := 0 } : Room) s m #[(.ref a1), (.ref a2)] below meth c s₁ [] 0 0 := Stand.of_body Bd
  have e0 : s₁.heap = h0 := by rw [← hh, Bd.state]; rfl
  have N0 := Fr.nil n0
  suffices G0 : ∀ K : State → Prop, (∀ (n : State) (v : Option Value) (L : List Loc), n.status = .running → Ended n below (.returned v) → Q3 Z a1 a2 u0 u1 u2 u3 u4 v0 v1 v2 v3 v4 h0 n0 v n.heap L → FrameEnd s (.returned v) n L ({ frames := 0, cells := 0, slots := 0, locals := 0 } : Room).cells ({ frames := 0, cells := 0, slots := 0, locals := 0 } : Room).slots → K n) → own_Go p e below K (s₁.setTop (mkF m 0 #[.val (.ref a1), .val (.ref a2), .unset] [])) by
    obtain ⟨t, st, o, a, b, v, L, e1, q, fe⟩ := G0 (fun n => ∃ o, n.status = .running ∧ Ended n below o ∧ ∃ v L, o = .returned v ∧ Q3 Z a1 a2 u0 u1 u2 u3 u4 v0 v1 v2 v3 v4 h0 n0 v n.heap L ∧ FrameEnd s o n L ({ frames := 0, cells := 0, slots := 0, locals := 0 } : Room).cells ({ frames := 0, cells := 0, slots := 0, locals := 0 } : Room).slots) (fun n v L a b q f => ⟨_, a, b, v, L, rfl, q, f⟩)
    exact ⟨t, o, castTop (ef_3 m a1 a2) st, a, b, v, L, e1, q, fe⟩
  intro K fin
  show own_Go p e below K (s₁.setTop (mkF m 0 #[.val (.ref a1), .val (.ref a2), .unset] []))
  refine own_st (fun t k => XS.aloadN X0.here hx rfl (hb hby d3_0) rfl rfl k) ?_
  show own_Go p e below K (s₁.setTop (mkF m 1 #[.val (.ref a1), .val (.ref a2), .unset] [(.ref a2)]))
  obtain ⟨T1, X1, e1, st1⟩ := instY X0 hx hZ hown (hw _ (List.mem_of_getElem? (i := 24) rfl)) e0 (Ins.self P5) (g := (mkF m 1 #[.val (.ref a1), .val (.ref a2), .unset] [(.ref a2)])) rfl rfl (hb hby d3_1)
  refine own_st st1 ?_
  show own_Go p e below K (T1.setTop (mkF m 4 #[.val (.ref a1), .val (.ref a2), .unset] [(.int (1 : Int32))]))
  refine own_st (fun t k => XS.ifNo X1.here hx rfl (hb hby d3_4) rfl ((if0 _ _).trans (feq (by decide : ¬ ((1 : Int32) = (0 : Int32)))).1) k) ?_
  show own_Go p e below K (T1.setTop (mkF m 7 #[.val (.ref a1), .val (.ref a2), .unset] []))
  refine own_st (fun t k => XS.aloadN X1.here hx rfl (hb hby d3_7) rfl rfl k) ?_
  show own_Go p e below K (T1.setTop (mkF m 8 #[.val (.ref a1), .val (.ref a2), .unset] [(.ref a2)]))
  obtain ⟨T2, X2, e2, st2⟩ := castY X1 hx hZ hown (hw _ (List.mem_of_getElem? (i := 24) rfl)) e1 (Ins.self P5) (g := (mkF m 8 #[.val (.ref a1), .val (.ref a2), .unset] [(.ref a2)])) rfl rfl (hb hby d3_8)
  refine own_st st2 ?_
  show own_Go p e below K (T2.setTop (mkF m 11 #[.val (.ref a1), .val (.ref a2), .unset] [(.ref a2)]))
  refine own_st (fun t k => XS.astoreN X2.here hx rfl (hb hby d3_11) rfl rfl (l' := #[.val (.ref a1), .val (.ref a2), .val (.ref a2)]) rfl k) ?_
  show own_Go p e below K (T2.setTop (mkF m 12 #[.val (.ref a1), .val (.ref a2), .val (.ref a2)] []))
  refine own_st (fun t k => XS.aloadN X2.here hx rfl (hb hby d3_12) rfl rfl k) ?_
  show own_Go p e below K (T2.setTop (mkF m 13 #[.val (.ref a1), .val (.ref a2), .val (.ref a2)] [(.ref a1)]))
  obtain ⟨T3, X3, e3, st3⟩ := getF X2 hx hZ hown (host := "") (Or.inl (hw _ (List.mem_of_getElem? (i := 9) rfl))) Via.refl e2 P0 (g := (mkF m 13 #[.val (.ref a1), .val (.ref a2), .val (.ref a2)] [(.ref a1)])) rfl rfl (hb hby d3_13)
  refine own_st st3 ?_
  show own_Go p e below K (T3.setTop (mkF m 16 #[.val (.ref a1), .val (.ref a2), .val (.ref a2)] [(.long u0)]))
  refine own_st (fun t k => XS.aloadN X3.here hx rfl (hb hby d3_16) rfl rfl k) ?_
  show own_Go p e below K (T3.setTop (mkF m 17 #[.val (.ref a1), .val (.ref a2), .val (.ref a2)] [(.ref a2), (.long u0)]))
  obtain ⟨T4, X4, e4, st4⟩ := getF X3 hx hZ hown (host := "") (Or.inl (hw _ (List.mem_of_getElem? (i := 9) rfl))) Via.refl e3 P6 (g := (mkF m 17 #[.val (.ref a1), .val (.ref a2), .val (.ref a2)] [(.ref a2), (.long u0)])) rfl rfl (hb hby d3_17)
  refine own_st st4 ?_
  show own_Go p e below K (T4.setTop (mkF m 20 #[.val (.ref a1), .val (.ref a2), .val (.ref a2)] [(.long v0), (.long u0)]))
  refine own_st (fun t k => XS.lcmp X4.here hx rfl (hb hby d3_20) rfl k) ?_
  show own_Go p e below K (T4.setTop (mkF m 21 #[.val (.ref a1), .val (.ref a2), .val (.ref a2)] [(.int (lcmpW u0 v0))]))
  by_cases hc21 : u0 = v0
  · refine own_st (fun t k => XS.ifNo X4.here hx rfl (hb hby d3_21) rfl ((if0 _ _).trans (teq ((lw_eq u0 v0).mpr hc21)).2) k) ?_
    show own_Go p e below K (T4.setTop (mkF m 24 #[.val (.ref a1), .val (.ref a2), .val (.ref a2)] []))
    refine own_st (fun t k => XS.aloadN X4.here hx rfl (hb hby d3_24) rfl rfl k) ?_
    show own_Go p e below K (T4.setTop (mkF m 25 #[.val (.ref a1), .val (.ref a2), .val (.ref a2)] [(.ref a1)]))
    obtain ⟨T5, X5, e5, st5⟩ := getF X4 hx hZ hown (host := "") (Or.inl (hw _ (List.mem_of_getElem? (i := 11) rfl))) Via.refl e4 P1 (g := (mkF m 25 #[.val (.ref a1), .val (.ref a2), .val (.ref a2)] [(.ref a1)])) rfl rfl (hb hby d3_25)
    refine own_st st5 ?_
    show own_Go p e below K (T5.setTop (mkF m 28 #[.val (.ref a1), .val (.ref a2), .val (.ref a2)] [(.long u1)]))
    refine own_st (fun t k => XS.aloadN X5.here hx rfl (hb hby d3_28) rfl rfl k) ?_
    show own_Go p e below K (T5.setTop (mkF m 29 #[.val (.ref a1), .val (.ref a2), .val (.ref a2)] [(.ref a2), (.long u1)]))
    obtain ⟨T6, X6, e6, st6⟩ := getF X5 hx hZ hown (host := "") (Or.inl (hw _ (List.mem_of_getElem? (i := 11) rfl))) Via.refl e5 P7 (g := (mkF m 29 #[.val (.ref a1), .val (.ref a2), .val (.ref a2)] [(.ref a2), (.long u1)])) rfl rfl (hb hby d3_29)
    refine own_st st6 ?_
    show own_Go p e below K (T6.setTop (mkF m 32 #[.val (.ref a1), .val (.ref a2), .val (.ref a2)] [(.long v1), (.long u1)]))
    refine own_st (fun t k => XS.lcmp X6.here hx rfl (hb hby d3_32) rfl k) ?_
    show own_Go p e below K (T6.setTop (mkF m 33 #[.val (.ref a1), .val (.ref a2), .val (.ref a2)] [(.int (lcmpW u1 v1))]))
    by_cases hc33 : u1 = v1
    · refine own_st (fun t k => XS.ifNo X6.here hx rfl (hb hby d3_33) rfl ((if0 _ _).trans (teq ((lw_eq u1 v1).mpr hc33)).2) k) ?_
      show own_Go p e below K (T6.setTop (mkF m 36 #[.val (.ref a1), .val (.ref a2), .val (.ref a2)] []))
      refine own_st (fun t k => XS.aloadN X6.here hx rfl (hb hby d3_36) rfl rfl k) ?_
      show own_Go p e below K (T6.setTop (mkF m 37 #[.val (.ref a1), .val (.ref a2), .val (.ref a2)] [(.ref a1)]))
      obtain ⟨T7, X7, e7, st7⟩ := getF X6 hx hZ hown (host := "") (Or.inl (hw _ (List.mem_of_getElem? (i := 13) rfl))) Via.refl e6 P2 (g := (mkF m 37 #[.val (.ref a1), .val (.ref a2), .val (.ref a2)] [(.ref a1)])) rfl rfl (hb hby d3_37)
      refine own_st st7 ?_
      show own_Go p e below K (T7.setTop (mkF m 40 #[.val (.ref a1), .val (.ref a2), .val (.ref a2)] [(.long u2)]))
      refine own_st (fun t k => XS.aloadN X7.here hx rfl (hb hby d3_40) rfl rfl k) ?_
      show own_Go p e below K (T7.setTop (mkF m 41 #[.val (.ref a1), .val (.ref a2), .val (.ref a2)] [(.ref a2), (.long u2)]))
      obtain ⟨T8, X8, e8, st8⟩ := getF X7 hx hZ hown (host := "") (Or.inl (hw _ (List.mem_of_getElem? (i := 13) rfl))) Via.refl e7 P8 (g := (mkF m 41 #[.val (.ref a1), .val (.ref a2), .val (.ref a2)] [(.ref a2), (.long u2)])) rfl rfl (hb hby d3_41)
      refine own_st st8 ?_
      show own_Go p e below K (T8.setTop (mkF m 44 #[.val (.ref a1), .val (.ref a2), .val (.ref a2)] [(.long v2), (.long u2)]))
      refine own_st (fun t k => XS.lcmp X8.here hx rfl (hb hby d3_44) rfl k) ?_
      show own_Go p e below K (T8.setTop (mkF m 45 #[.val (.ref a1), .val (.ref a2), .val (.ref a2)] [(.int (lcmpW u2 v2))]))
      by_cases hc45 : u2 = v2
      · refine own_st (fun t k => XS.ifNo X8.here hx rfl (hb hby d3_45) rfl ((if0 _ _).trans (teq ((lw_eq u2 v2).mpr hc45)).2) k) ?_
        show own_Go p e below K (T8.setTop (mkF m 48 #[.val (.ref a1), .val (.ref a2), .val (.ref a2)] []))
        refine own_st (fun t k => XS.aloadN X8.here hx rfl (hb hby d3_48) rfl rfl k) ?_
        show own_Go p e below K (T8.setTop (mkF m 49 #[.val (.ref a1), .val (.ref a2), .val (.ref a2)] [(.ref a1)]))
        obtain ⟨T9, X9, e9, st9⟩ := getF X8 hx hZ hown (host := "") (Or.inl (hw _ (List.mem_of_getElem? (i := 15) rfl))) Via.refl e8 P3 (g := (mkF m 49 #[.val (.ref a1), .val (.ref a2), .val (.ref a2)] [(.ref a1)])) rfl rfl (hb hby d3_49)
        refine own_st st9 ?_
        show own_Go p e below K (T9.setTop (mkF m 52 #[.val (.ref a1), .val (.ref a2), .val (.ref a2)] [(.long u3)]))
        refine own_st (fun t k => XS.aloadN X9.here hx rfl (hb hby d3_52) rfl rfl k) ?_
        show own_Go p e below K (T9.setTop (mkF m 53 #[.val (.ref a1), .val (.ref a2), .val (.ref a2)] [(.ref a2), (.long u3)]))
        obtain ⟨T10, X10, e10, st10⟩ := getF X9 hx hZ hown (host := "") (Or.inl (hw _ (List.mem_of_getElem? (i := 15) rfl))) Via.refl e9 P9 (g := (mkF m 53 #[.val (.ref a1), .val (.ref a2), .val (.ref a2)] [(.ref a2), (.long u3)])) rfl rfl (hb hby d3_53)
        refine own_st st10 ?_
        show own_Go p e below K (T10.setTop (mkF m 56 #[.val (.ref a1), .val (.ref a2), .val (.ref a2)] [(.long v3), (.long u3)]))
        refine own_st (fun t k => XS.lcmp X10.here hx rfl (hb hby d3_56) rfl k) ?_
        show own_Go p e below K (T10.setTop (mkF m 57 #[.val (.ref a1), .val (.ref a2), .val (.ref a2)] [(.int (lcmpW u3 v3))]))
        by_cases hc57 : u3 = v3
        · refine own_st (fun t k => XS.ifNo X10.here hx rfl (hb hby d3_57) rfl ((if0 _ _).trans (teq ((lw_eq u3 v3).mpr hc57)).2) k) ?_
          show own_Go p e below K (T10.setTop (mkF m 60 #[.val (.ref a1), .val (.ref a2), .val (.ref a2)] []))
          refine own_st (fun t k => XS.aloadN X10.here hx rfl (hb hby d3_60) rfl rfl k) ?_
          show own_Go p e below K (T10.setTop (mkF m 61 #[.val (.ref a1), .val (.ref a2), .val (.ref a2)] [(.ref a1)]))
          obtain ⟨T11, X11, e11, st11⟩ := getF X10 hx hZ hown (host := "") (Or.inl (hw _ (List.mem_of_getElem? (i := 17) rfl))) Via.refl e10 P4 (g := (mkF m 61 #[.val (.ref a1), .val (.ref a2), .val (.ref a2)] [(.ref a1)])) rfl rfl (hb hby d3_61)
          refine own_st st11 ?_
          show own_Go p e below K (T11.setTop (mkF m 64 #[.val (.ref a1), .val (.ref a2), .val (.ref a2)] [(.long u4)]))
          refine own_st (fun t k => XS.aloadN X11.here hx rfl (hb hby d3_64) rfl rfl k) ?_
          show own_Go p e below K (T11.setTop (mkF m 65 #[.val (.ref a1), .val (.ref a2), .val (.ref a2)] [(.ref a2), (.long u4)]))
          obtain ⟨T12, X12, e12, st12⟩ := getF X11 hx hZ hown (host := "") (Or.inl (hw _ (List.mem_of_getElem? (i := 17) rfl))) Via.refl e11 P10 (g := (mkF m 65 #[.val (.ref a1), .val (.ref a2), .val (.ref a2)] [(.ref a2), (.long u4)])) rfl rfl (hb hby d3_65)
          refine own_st st12 ?_
          show own_Go p e below K (T12.setTop (mkF m 68 #[.val (.ref a1), .val (.ref a2), .val (.ref a2)] [(.long v4), (.long u4)]))
          refine own_st (fun t k => XS.lcmp X12.here hx rfl (hb hby d3_68) rfl k) ?_
          show own_Go p e below K (T12.setTop (mkF m 69 #[.val (.ref a1), .val (.ref a2), .val (.ref a2)] [(.int (lcmpW u4 v4))]))
          by_cases hc69 : u4 = v4
          · refine own_st (fun t k => XS.ifNo X12.here hx rfl (hb hby d3_69) rfl ((if0 _ _).trans (teq ((lw_eq u4 v4).mpr hc69)).2) k) ?_
            show own_Go p e below K (T12.setTop (mkF m 72 #[.val (.ref a1), .val (.ref a2), .val (.ref a2)] []))
            refine own_st (fun t k => XS.iconst X12.here hx rfl (hb hby d3_72) k) ?_
            show own_Go p e below K (T12.setTop (mkF m 73 #[.val (.ref a1), .val (.ref a2), .val (.ref a2)] [(.int (1 : Int32))]))
            refine own_st (fun t k => XS.goto X12.here hx rfl (pc0 := 73) (pc' := 77) rfl (hb hby d3_73) (by decide) (by decide) k) ?_
            show own_Go p e below K (T12.setTop (mkF m 77 #[.val (.ref a1), .val (.ref a2), .val (.ref a2)] [(.int (1 : Int32))]))
            obtain ⟨fs, hr, hrun, hended, hW, hsame⟩ := X12.leave (v := some (.int (nar .boolean (1 : Int32)))) (fun h => by rw [Bd.returns] at h; cases h)
            refine ⟨_, retN X12 hx (t := .boolean) Bd.returns (by simp) (hb hby d3_77) hr, fin _ _ _ hrun hended ?_ ⟨⟨_, rfl⟩, hW, hsame.mono (by decide) (by decide)⟩⟩
            show Q3 Z a1 a2 u0 u1 u2 u3 u4 v0 v1 v2 v3 v4 h0 n0 _ T12.heap _
            rw [e12]
            exact ⟨_, rfl, (own_B.yes (by decide) ⟨hc21, hc33, hc45, hc57, hc69⟩), N0, rfl⟩
          refine own_st (fun t k => XS.ifYes X12.here hx rfl (pc0 := 69) (pc' := 76) rfl (hb hby d3_69) rfl ((if0 _ _).trans (feq (fun q => hc69 ((lw_eq u4 v4).mp q))).2) (by decide) (by decide) k) ?_
          show own_Go p e below K (T12.setTop (mkF m 76 #[.val (.ref a1), .val (.ref a2), .val (.ref a2)] []))
          refine own_st (fun t k => XS.iconst X12.here hx rfl (hb hby d3_76) k) ?_
          show own_Go p e below K (T12.setTop (mkF m 77 #[.val (.ref a1), .val (.ref a2), .val (.ref a2)] [(.int (0 : Int32))]))
          obtain ⟨fs, hr, hrun, hended, hW, hsame⟩ := X12.leave (v := some (.int (nar .boolean (0 : Int32)))) (fun h => by rw [Bd.returns] at h; cases h)
          refine ⟨_, retN X12 hx (t := .boolean) Bd.returns (by simp) (hb hby d3_77) hr, fin _ _ _ hrun hended ?_ ⟨⟨_, rfl⟩, hW, hsame.mono (by decide) (by decide)⟩⟩
          show Q3 Z a1 a2 u0 u1 u2 u3 u4 v0 v1 v2 v3 v4 h0 n0 _ T12.heap _
          rw [e12]
          exact ⟨_, rfl, (own_B.no (by decide) fun q => hc69 q.2.2.2.2), N0, rfl⟩
        refine own_st (fun t k => XS.ifYes X10.here hx rfl (pc0 := 57) (pc' := 76) rfl (hb hby d3_57) rfl ((if0 _ _).trans (feq (fun q => hc57 ((lw_eq u3 v3).mp q))).2) (by decide) (by decide) k) ?_
        show own_Go p e below K (T10.setTop (mkF m 76 #[.val (.ref a1), .val (.ref a2), .val (.ref a2)] []))
        refine own_st (fun t k => XS.iconst X10.here hx rfl (hb hby d3_76) k) ?_
        show own_Go p e below K (T10.setTop (mkF m 77 #[.val (.ref a1), .val (.ref a2), .val (.ref a2)] [(.int (0 : Int32))]))
        obtain ⟨fs, hr, hrun, hended, hW, hsame⟩ := X10.leave (v := some (.int (nar .boolean (0 : Int32)))) (fun h => by rw [Bd.returns] at h; cases h)
        refine ⟨_, retN X10 hx (t := .boolean) Bd.returns (by simp) (hb hby d3_77) hr, fin _ _ _ hrun hended ?_ ⟨⟨_, rfl⟩, hW, hsame.mono (by decide) (by decide)⟩⟩
        show Q3 Z a1 a2 u0 u1 u2 u3 u4 v0 v1 v2 v3 v4 h0 n0 _ T10.heap _
        rw [e10]
        exact ⟨_, rfl, (own_B.no (by decide) fun q => hc57 q.2.2.2.1), N0, rfl⟩
      refine own_st (fun t k => XS.ifYes X8.here hx rfl (pc0 := 45) (pc' := 76) rfl (hb hby d3_45) rfl ((if0 _ _).trans (feq (fun q => hc45 ((lw_eq u2 v2).mp q))).2) (by decide) (by decide) k) ?_
      show own_Go p e below K (T8.setTop (mkF m 76 #[.val (.ref a1), .val (.ref a2), .val (.ref a2)] []))
      refine own_st (fun t k => XS.iconst X8.here hx rfl (hb hby d3_76) k) ?_
      show own_Go p e below K (T8.setTop (mkF m 77 #[.val (.ref a1), .val (.ref a2), .val (.ref a2)] [(.int (0 : Int32))]))
      obtain ⟨fs, hr, hrun, hended, hW, hsame⟩ := X8.leave (v := some (.int (nar .boolean (0 : Int32)))) (fun h => by rw [Bd.returns] at h; cases h)
      refine ⟨_, retN X8 hx (t := .boolean) Bd.returns (by simp) (hb hby d3_77) hr, fin _ _ _ hrun hended ?_ ⟨⟨_, rfl⟩, hW, hsame.mono (by decide) (by decide)⟩⟩
      show Q3 Z a1 a2 u0 u1 u2 u3 u4 v0 v1 v2 v3 v4 h0 n0 _ T8.heap _
      rw [e8]
      exact ⟨_, rfl, (own_B.no (by decide) fun q => hc45 q.2.2.1), N0, rfl⟩
    refine own_st (fun t k => XS.ifYes X6.here hx rfl (pc0 := 33) (pc' := 76) rfl (hb hby d3_33) rfl ((if0 _ _).trans (feq (fun q => hc33 ((lw_eq u1 v1).mp q))).2) (by decide) (by decide) k) ?_
    show own_Go p e below K (T6.setTop (mkF m 76 #[.val (.ref a1), .val (.ref a2), .val (.ref a2)] []))
    refine own_st (fun t k => XS.iconst X6.here hx rfl (hb hby d3_76) k) ?_
    show own_Go p e below K (T6.setTop (mkF m 77 #[.val (.ref a1), .val (.ref a2), .val (.ref a2)] [(.int (0 : Int32))]))
    obtain ⟨fs, hr, hrun, hended, hW, hsame⟩ := X6.leave (v := some (.int (nar .boolean (0 : Int32)))) (fun h => by rw [Bd.returns] at h; cases h)
    refine ⟨_, retN X6 hx (t := .boolean) Bd.returns (by simp) (hb hby d3_77) hr, fin _ _ _ hrun hended ?_ ⟨⟨_, rfl⟩, hW, hsame.mono (by decide) (by decide)⟩⟩
    show Q3 Z a1 a2 u0 u1 u2 u3 u4 v0 v1 v2 v3 v4 h0 n0 _ T6.heap _
    rw [e6]
    exact ⟨_, rfl, (own_B.no (by decide) fun q => hc33 q.2.1), N0, rfl⟩
  refine own_st (fun t k => XS.ifYes X4.here hx rfl (pc0 := 21) (pc' := 76) rfl (hb hby d3_21) rfl ((if0 _ _).trans (feq (fun q => hc21 ((lw_eq u0 v0).mp q))).2) (by decide) (by decide) k) ?_
  show own_Go p e below K (T4.setTop (mkF m 76 #[.val (.ref a1), .val (.ref a2), .val (.ref a2)] []))
  refine own_st (fun t k => XS.iconst X4.here hx rfl (hb hby d3_76) k) ?_
  show own_Go p e below K (T4.setTop (mkF m 77 #[.val (.ref a1), .val (.ref a2), .val (.ref a2)] [(.int (0 : Int32))]))
  obtain ⟨fs, hr, hrun, hended, hW, hsame⟩ := X4.leave (v := some (.int (nar .boolean (0 : Int32)))) (fun h => by rw [Bd.returns] at h; cases h)
  refine ⟨_, retN X4 hx (t := .boolean) Bd.returns (by simp) (hb hby d3_77) hr, fin _ _ _ hrun hended ?_ ⟨⟨_, rfl⟩, hW, hsame.mono (by decide) (by decide)⟩⟩
  show Q3 Z a1 a2 u0 u1 u2 u3 u4 v0 v1 v2 v3 v4 h0 n0 _ T4.heap _
  rw [e4]
  exact ⟨_, rfl, (own_B.no (by decide) fun q => hc21 q.1), N0, rfl⟩
theorem ef_3n (m : MethodId) (x0 : Addr) : entryFrame m #[(.ref x0), .null] 3 = mkF m 0 #[.val (.ref x0), .val .null, .unset] [] := by first | (simp [entryFrame, mkF, argsToLocals, Value.category]; done) | rfl
def Q3n (Z : State) (a1 : Addr) (h0 : Heap) (n0 : Nat) (v : Option Value) (h : Heap) (L : List Loc) : Prop := ∃ (r : Int32), v = some (.int r) ∧ (r = 0) ∧ Fr n0 L ∧ h = h0
set_option maxRecDepth 65536 in
set_option maxHeartbeats 40000000 in
theorem rm3n (l : Launch) (Z : State) (a0 : Array Value) (hw : ∀ d ∈ tables_1, d.before a0 Z = true) (ws : List Jvm.Cond) (a1 : Addr) (h0 : Heap) (n0 : Nat) (Z0 : n0 ≤ h0.size)  :
    MetFree l (⟨"com/example/expire_then_sweep/expirethensweep/model/ContainerStats", "equals", "(Ljava/lang/Object;)Z"⟩ : MethodName) (head1 (Jvm.Cond.code (⟨"com/example/expire_then_sweep/expirethensweep/model/ContainerStats", "equals", "(Ljava/lang/Object;)Z"⟩ : MethodName) prog_6_method_7_code 3 (some .boolean) :: ws) ({ frames := 0, cells := 0, slots := 0, locals := 0 } : Room)) (fun a U => a = #[(.ref a1), .null] ∧ Z.Warmed39 U.vm ∧ U.heap = h0) (fun _ _ _ _ _ => True) (fun _ U o U' => ∃ v L, o = .returned v ∧ Q3n Z a1 h0 n0 v U'.heap L ∧ FrameEnd U o U' L ({ frames := 0, cells := 0, slots := 0, locals := 0 } : Room).cells ({ frames := 0, cells := 0, slots := 0, locals := 0 } : Room).slots) := by
  refine MetFree.of_bodySF (plainFor_of_name pn_3) hisR ?_
  intro p e s m args below meth c s₁ Bd hml0 hP hK
  obtain ⟨rfl, hZ, hh⟩ := hP
  have hx := Bd.exec
  have hby := Bd.bytes
  have hml : c.maxLocals = 3 := hml0
  have hown : s.vm.findClass "com/example/expire_then_sweep/expirethensweep/model/ContainerStats" = some m.cls := findClass_of_methodNamed Bd.named
  have hnm := (name_of_methodNamed Bd.named Bd.method).1
  have X0 : Stand p l e ({ frames := 0, cells := 0, slots := 0, locals := 0 } : Room) s m #[(.ref a1), .null] below meth c s₁ [] 0 0 := Stand.of_body Bd
  have e0 : s₁.heap = h0 := by rw [← hh, Bd.state]; rfl
  have N0 := Fr.nil n0
  suffices G0 : ∀ K : State → Prop, (∀ (n : State) (v : Option Value) (L : List Loc), n.status = .running → Ended n below (.returned v) → Q3n Z a1 h0 n0 v n.heap L → FrameEnd s (.returned v) n L ({ frames := 0, cells := 0, slots := 0, locals := 0 } : Room).cells ({ frames := 0, cells := 0, slots := 0, locals := 0 } : Room).slots → K n) → own_Go p e below K (s₁.setTop (mkF m 0 #[.val (.ref a1), .val .null, .unset] [])) by
    obtain ⟨t, st, o, a, b, v, L, e1, q, fe⟩ := G0 (fun n => ∃ o, n.status = .running ∧ Ended n below o ∧ ∃ v L, o = .returned v ∧ Q3n Z a1 h0 n0 v n.heap L ∧ FrameEnd s o n L ({ frames := 0, cells := 0, slots := 0, locals := 0 } : Room).cells ({ frames := 0, cells := 0, slots := 0, locals := 0 } : Room).slots) (fun n v L a b q f => ⟨_, a, b, v, L, rfl, q, f⟩)
    exact ⟨t, o, castTop (ef_3n m a1) st, a, b, v, L, e1, q, fe⟩
  intro K fin
  show own_Go p e below K (s₁.setTop (mkF m 0 #[.val (.ref a1), .val .null, .unset] []))
  refine own_st (fun t k => XS.aloadN X0.here hx rfl (hb hby d3_0) rfl rfl k) ?_
  show own_Go p e below K (s₁.setTop (mkF m 1 #[.val (.ref a1), .val .null, .unset] [.null]))
  refine own_st (X0.instanceofNull hx (g := (mkF m 1 #[.val (.ref a1), .val .null, .unset] [.null])) rfl rfl (hb hby d3_1)) ?_
  show own_Go p e below K (s₁.setTop (mkF m 4 #[.val (.ref a1), .val .null, .unset] [(.int (0 : Int32))]))
  refine own_st (fun t k => XS.ifYes X0.here hx rfl (pc0 := 4) (pc' := 76) rfl (hb hby d3_4) rfl ((if0 _ _).trans (teq (by decide : (0 : Int32) = (0 : Int32))).1) (by decide) (by decide) k) ?_
  show own_Go p e below K (s₁.setTop (mkF m 76 #[.val (.ref a1), .val .null, .unset] []))
  refine own_st (fun t k => XS.iconst X0.here hx rfl (hb hby d3_76) k) ?_
  show own_Go p e below K (s₁.setTop (mkF m 77 #[.val (.ref a1), .val .null, .unset] [(.int (0 : Int32))]))
  obtain ⟨fs, hr, hrun, hended, hW, hsame⟩ := X0.leave (v := some (.int (nar .boolean (0 : Int32)))) (fun h => by rw [Bd.returns] at h; cases h)
  refine ⟨_, retN X0 hx (t := .boolean) Bd.returns (by simp) (hb hby d3_77) hr, fin _ _ _ hrun hended ?_ ⟨⟨_, rfl⟩, hW, hsame.mono (by decide) (by decide)⟩⟩
  show Q3n Z a1 h0 n0 _ s₁.heap _
  rw [e0]
  exact ⟨_, rfl, rfl, N0, rfl⟩
theorem ef_3l (m : MethodId) (x0 : Addr) (x1 : Addr) : entryFrame m #[(.ref x0), (.ref x1)] 3 = mkF m 0 #[.val (.ref x0), .val (.ref x1), .unset] [] := by first | (simp [entryFrame, mkF, argsToLocals, Value.category]; done) | rfl
def Q3l (Z : State) (a1 : Addr) (a2 : Addr) (h0 : Heap) (n0 : Nat) (v : Option Value) (h : Heap) (L : List Loc) : Prop := ∃ (r : Int32), v = some (.int r) ∧ (r = 0) ∧ Fr n0 L ∧ h = h0
set_option maxRecDepth 65536 in
set_option maxHeartbeats 40000000 in
theorem rm3l (l : Launch) (Z : State) (a0 : Array Value) (hw : ∀ d ∈ tables_1, d.before a0 Z = true) (ws : List Jvm.Cond) (a1 : Addr) (a2 : Addr) (h0 : Heap) (n0 : Nat) (Z0 : n0 ≤ h0.size) (P0 : Exa Z h0 a2 "java/lang/Long") :
    MetFree l (⟨"com/example/expire_then_sweep/expirethensweep/model/ContainerStats", "equals", "(Ljava/lang/Object;)Z"⟩ : MethodName) (head1 (Jvm.Cond.code (⟨"com/example/expire_then_sweep/expirethensweep/model/ContainerStats", "equals", "(Ljava/lang/Object;)Z"⟩ : MethodName) prog_6_method_7_code 3 (some .boolean) :: ws) ({ frames := 0, cells := 0, slots := 0, locals := 0 } : Room)) (fun a U => a = #[(.ref a1), (.ref a2)] ∧ Z.Warmed39 U.vm ∧ U.heap = h0) (fun _ _ _ _ _ => True) (fun _ U o U' => ∃ v L, o = .returned v ∧ Q3l Z a1 a2 h0 n0 v U'.heap L ∧ FrameEnd U o U' L ({ frames := 0, cells := 0, slots := 0, locals := 0 } : Room).cells ({ frames := 0, cells := 0, slots := 0, locals := 0 } : Room).slots) := by
  refine MetFree.of_bodySF (plainFor_of_name pn_3) hisR ?_
  intro p e s m args below meth c s₁ Bd hml0 hP hK
  obtain ⟨rfl, hZ, hh⟩ := hP
  have hx := Bd.exec
  have hby := Bd.bytes
  have hml : c.maxLocals = 3 := hml0
  have hown : s.vm.findClass "com/example/expire_then_sweep/expirethensweep/model/ContainerStats" = some m.cls := findClass_of_methodNamed Bd.named
  have hnm := (name_of_methodNamed Bd.named Bd.method).1
  have X0 : Stand p l e ({ frames := 0, cells := 0, slots := 0, locals := 0 } : Room) s m #[(.ref a1), (.ref a2)] below meth c s₁ [] 0 0 := Stand.of_body Bd
  have e0 : s₁.heap = h0 := by rw [← hh, Bd.state]; rfl
  have N0 := Fr.nil n0
  suffices G0 : ∀ K : State → Prop, (∀ (n : State) (v : Option Value) (L : List Loc), n.status = .running → Ended n below (.returned v) → Q3l Z a1 a2 h0 n0 v n.heap L → FrameEnd s (.returned v) n L ({ frames := 0, cells := 0, slots := 0, locals := 0 } : Room).cells ({ frames := 0, cells := 0, slots := 0, locals := 0 } : Room).slots → K n) → own_Go p e below K (s₁.setTop (mkF m 0 #[.val (.ref a1), .val (.ref a2), .unset] [])) by
    obtain ⟨t, st, o, a, b, v, L, e1, q, fe⟩ := G0 (fun n => ∃ o, n.status = .running ∧ Ended n below o ∧ ∃ v L, o = .returned v ∧ Q3l Z a1 a2 h0 n0 v n.heap L ∧ FrameEnd s o n L ({ frames := 0, cells := 0, slots := 0, locals := 0 } : Room).cells ({ frames := 0, cells := 0, slots := 0, locals := 0 } : Room).slots) (fun n v L a b q f => ⟨_, a, b, v, L, rfl, q, f⟩)
    exact ⟨t, o, castTop (ef_3l m a1 a2) st, a, b, v, L, e1, q, fe⟩
  intro K fin
  show own_Go p e below K (s₁.setTop (mkF m 0 #[.val (.ref a1), .val (.ref a2), .unset] []))
  refine own_st (fun t k => XS.aloadN X0.here hx rfl (hb hby d3_0) rfl rfl k) ?_
  show own_Go p e below K (s₁.setTop (mkF m 1 #[.val (.ref a1), .val (.ref a2), .unset] [(.ref a2)]))
  obtain ⟨T1, X1, e1, st1⟩ := instNo X0 hx hZ hown (hw _ (List.mem_of_getElem? (i := 24) rfl)) e0 P0 (own_nosub hw) (g := (mkF m 1 #[.val (.ref a1), .val (.ref a2), .unset] [(.ref a2)])) rfl rfl (hb hby d3_1)
  refine own_st st1 ?_
  show own_Go p e below K (T1.setTop (mkF m 4 #[.val (.ref a1), .val (.ref a2), .unset] [(.int (0 : Int32))]))
  refine own_st (fun t k => XS.ifYes X1.here hx rfl (pc0 := 4) (pc' := 76) rfl (hb hby d3_4) rfl ((if0 _ _).trans (teq (by decide : (0 : Int32) = (0 : Int32))).1) (by decide) (by decide) k) ?_
  show own_Go p e below K (T1.setTop (mkF m 76 #[.val (.ref a1), .val (.ref a2), .unset] []))
  refine own_st (fun t k => XS.iconst X1.here hx rfl (hb hby d3_76) k) ?_
  show own_Go p e below K (T1.setTop (mkF m 77 #[.val (.ref a1), .val (.ref a2), .unset] [(.int (0 : Int32))]))
  obtain ⟨fs, hr, hrun, hended, hW, hsame⟩ := X1.leave (v := some (.int (nar .boolean (0 : Int32)))) (fun h => by rw [Bd.returns] at h; cases h)
  refine ⟨_, retN X1 hx (t := .boolean) Bd.returns (by simp) (hb hby d3_77) hr, fin _ _ _ hrun hended ?_ ⟨⟨_, rfl⟩, hW, hsame.mono (by decide) (by decide)⟩⟩
  show Q3l Z a1 a2 h0 n0 _ T1.heap _
  rw [e1]
  exact ⟨_, rfl, rfl, N0, rfl⟩
theorem d6_0 : decode jdk_18_method_1_code 0 = .ok (.aload_n 0, 1) := by decide +kernel
theorem d6_1 : decode jdk_18_method_1_code 1 = .ok (.invokespecial 1, 3) := by decide +kernel
theorem d6_4 : decode jdk_18_method_1_code 4 = .ok (.return_, 1) := by decide +kernel
theorem pn_6 : plainName "java/lang/Number" = true := by first | (simp [plainName, overriddenIn]; done) | decide +kernel
theorem ef_6 (m : MethodId) (x0 : Addr) : entryFrame m #[(.ref x0)] 1 = mkF m 0 #[.val (.ref x0)] [] := by first | (simp [entryFrame, mkF, argsToLocals, Value.category]; done) | rfl
def Q6 (Z : State) (a1 : Addr) (h0 : Heap) (n0 : Nat) (v : Option Value) (h : Heap) (L : List Loc) : Prop := v = none ∧ Fr n0 L ∧ h = h0
set_option maxRecDepth 65536 in
set_option maxHeartbeats 40000000 in
theorem rm6 (l : Launch) (Z : State) (a0 : Array Value) (hw : ∀ d ∈ tables_1, d.before a0 Z = true) (ws : List Jvm.Cond) (a1 : Addr) (h0 : Heap) (n0 : Nat) (Z0 : n0 ≤ h0.size)  :
    MetFree l (⟨"java/lang/Number", "<init>", "()V"⟩ : MethodName) (head1 (Jvm.Cond.code (⟨"java/lang/Number", "<init>", "()V"⟩ : MethodName) jdk_18_method_1_code 1 none :: ws) ({ frames := 1, cells := 0, slots := 0, locals := 12 } : Room)) (fun a U => a = #[(.ref a1)] ∧ Z.Warmed39 U.vm ∧ U.heap = h0) (fun _ _ _ _ _ => True) (fun _ U o U' => ∃ v L, o = .returned v ∧ Q6 Z a1 h0 n0 v U'.heap L ∧ FrameEnd U o U' L ({ frames := 1, cells := 0, slots := 0, locals := 12 } : Room).cells ({ frames := 1, cells := 0, slots := 0, locals := 12 } : Room).slots) := by
  refine MetFree.of_bodySF (plainFor_of_name pn_6) hisR ?_
  intro p e s m args below meth c s₁ Bd hml0 hP hK
  obtain ⟨rfl, hZ, hh⟩ := hP
  have hx := Bd.exec
  have hby := Bd.bytes
  have hml : c.maxLocals = 1 := hml0
  have hown : s.vm.findClass "java/lang/Number" = some m.cls := findClass_of_methodNamed Bd.named
  have hnm := (name_of_methodNamed Bd.named Bd.method).1
  have X0 : Stand p l e ({ frames := 1, cells := 0, slots := 0, locals := 12 } : Room) s m #[(.ref a1)] below meth c s₁ [] 0 0 := Stand.of_body Bd
  have e0 : s₁.heap = h0 := by rw [← hh, Bd.state]; rfl
  have N0 := Fr.nil n0
  suffices G0 : ∀ K : State → Prop, (∀ (n : State) (v : Option Value) (L : List Loc), n.status = .running → Ended n below (.returned v) → Q6 Z a1 h0 n0 v n.heap L → FrameEnd s (.returned v) n L ({ frames := 1, cells := 0, slots := 0, locals := 12 } : Room).cells ({ frames := 1, cells := 0, slots := 0, locals := 12 } : Room).slots → K n) → own_Go p e below K (s₁.setTop (mkF m 0 #[.val (.ref a1)] [])) by
    obtain ⟨t, st, o, a, b, v, L, e1, q, fe⟩ := G0 (fun n => ∃ o, n.status = .running ∧ Ended n below o ∧ ∃ v L, o = .returned v ∧ Q6 Z a1 h0 n0 v n.heap L ∧ FrameEnd s o n L ({ frames := 1, cells := 0, slots := 0, locals := 12 } : Room).cells ({ frames := 1, cells := 0, slots := 0, locals := 12 } : Room).slots) (fun n v L a b q f => ⟨_, a, b, v, L, rfl, q, f⟩)
    exact ⟨t, o, castTop (ef_6 m a1) st, a, b, v, L, e1, q, fe⟩
  intro K fin
  show own_Go p e below K (s₁.setTop (mkF m 0 #[.val (.ref a1)] []))
  refine own_st (fun t k => XS.aloadN X0.here hx rfl (hb hby d6_0) rfl rfl k) ?_
  show own_Go p e below K (s₁.setTop (mkF m 1 #[.val (.ref a1)] [(.ref a1)]))
  obtain ⟨T1, X1, e1, st1⟩ := initO X0 hx hZ hown (hw _ (List.mem_of_getElem? (i := 44) rfl)) (hw _ (List.mem_of_getElem? (i := 7) rfl)) (hw _ (List.mem_of_getElem? (i := 8) rfl)) e0 (g := (mkF m 1 #[.val (.ref a1)] [(.ref a1)])) rfl (by rw [hml]; rfl) rfl (hb hby d6_1) (by decide) (W := 0) (by show 2 * 0 + _ ≤ _; exact Nat.le_of_eq rfl) (by decide)
  refine own_st st1 ?_
  show own_Go p e below K (T1.setTop (mkF m 4 #[.val (.ref a1)] []))
  obtain ⟨fs, hr, hrun, hended, hW, hsame⟩ := X1.leave (v := none) (fun _ => rfl)
  refine ⟨_, X1.returnOut hx Bd.returns (hb hby d6_4) hr, fin _ _ _ hrun hended ?_ ⟨⟨_, rfl⟩, hW, hsame.mono (by decide) (by decide)⟩⟩
  show Q6 Z a1 h0 n0 _ T1.heap _
  rw [e1]
  exact ⟨rfl, N0, rfl⟩
theorem d5_0 : decode jdk_35_method_26_code 0 = .ok (.aload_n 0, 1) := by decide +kernel
theorem d5_1 : decode jdk_35_method_26_code 1 = .ok (.invokespecial 270, 3) := by decide +kernel
theorem d5_4 : decode jdk_35_method_26_code 4 = .ok (.aload_n 0, 1) := by decide +kernel
theorem d5_5 : decode jdk_35_method_26_code 5 = .ok (.lload_n 1, 1) := by decide +kernel
theorem d5_6 : decode jdk_35_method_26_code 6 = .ok (.putfield 273, 3) := by decide +kernel
theorem d5_9 : decode jdk_35_method_26_code 9 = .ok (.return_, 1) := by decide +kernel
theorem pn_5 : plainName "java/lang/Long" = true := by first | (simp [plainName, overriddenIn]; done) | decide +kernel
theorem pd_5_1 : parseMethodDescriptor "()V" = some ⟨[], none⟩ := by decide +kernel
theorem ef_5 (m : MethodId) (x0 : Addr) (x1 : Int64) : entryFrame m #[(.ref x0), (.long x1)] 3 = mkF m 0 #[.val (.ref x0), .val (.long x1), .second] [] := by first | (simp [entryFrame, mkF, argsToLocals, Value.category]; done) | rfl
def Q5 (Z : State) (a1 : Addr) (q2 : Int64) (h0 : Heap) (n0 : Nat) (v : Option Value) (h : Heap) (L : List Loc) : Prop := v = none ∧ Fr n0 L ∧ Keep h0 h [a1] ∧ (Exa Z h a1 "java/lang/Long")
set_option maxRecDepth 65536 in
set_option maxHeartbeats 40000000 in
theorem rm5 (l : Launch) (Z : State) (a0 : Array Value) (hw : ∀ d ∈ tables_1, d.before a0 Z = true) (ws : List Jvm.Cond) (a1 : Addr) (q2 : Int64) (h0 : Heap) (n0 : Nat) (Z0 : n0 ≤ h0.size) (g_a1 : n0 ≤ a1) (P0 : Exa Z h0 a1 "java/lang/Long") (P1 : Fld Z h0 a1 "java/lang/Long" "value" "J" (.long (0 : Int64))) :
    MetFree l (⟨"java/lang/Long", "<init>", "(J)V"⟩ : MethodName) (head1 (Jvm.Cond.code (⟨"java/lang/Long", "<init>", "(J)V"⟩ : MethodName) jdk_35_method_26_code 3 none :: ws) ({ frames := 2, cells := 0, slots := 0, locals := 24 } : Room)) (fun a U => a = #[(.ref a1), (.long q2)] ∧ Z.Warmed39 U.vm ∧ U.heap = h0) (fun _ _ _ _ _ => True) (fun _ U o U' => ∃ v L, o = .returned v ∧ Q5 Z a1 q2 h0 n0 v U'.heap L ∧ FrameEnd U o U' L ({ frames := 2, cells := 0, slots := 0, locals := 24 } : Room).cells ({ frames := 2, cells := 0, slots := 0, locals := 24 } : Room).slots) := by
  refine MetFree.of_bodySF (plainFor_of_name pn_5) hisR ?_
  intro p e s m args below meth c s₁ Bd hml0 hP hK
  obtain ⟨rfl, hZ, hh⟩ := hP
  have hx := Bd.exec
  have hby := Bd.bytes
  have hml : c.maxLocals = 3 := hml0
  have hown : s.vm.findClass "java/lang/Long" = some m.cls := findClass_of_methodNamed Bd.named
  have hnm := (name_of_methodNamed Bd.named Bd.method).1
  have X0 : Stand p l e ({ frames := 2, cells := 0, slots := 0, locals := 24 } : Room) s m #[(.ref a1), (.long q2)] below meth c s₁ [] 0 0 := Stand.of_body Bd
  have e0 : s₁.heap = h0 := by rw [← hh, Bd.state]; rfl
  have N0 := Fr.nil n0
  suffices G0 : ∀ K : State → Prop, (∀ (n : State) (v : Option Value) (L : List Loc), n.status = .running → Ended n below (.returned v) → Q5 Z a1 q2 h0 n0 v n.heap L → FrameEnd s (.returned v) n L ({ frames := 2, cells := 0, slots := 0, locals := 24 } : Room).cells ({ frames := 2, cells := 0, slots := 0, locals := 24 } : Room).slots → K n) → own_Go p e below K (s₁.setTop (mkF m 0 #[.val (.ref a1), .val (.long q2), .second] [])) by
    obtain ⟨t, st, o, a, b, v, L, e1, q, fe⟩ := G0 (fun n => ∃ o, n.status = .running ∧ Ended n below o ∧ ∃ v L, o = .returned v ∧ Q5 Z a1 q2 h0 n0 v n.heap L ∧ FrameEnd s o n L ({ frames := 2, cells := 0, slots := 0, locals := 24 } : Room).cells ({ frames := 2, cells := 0, slots := 0, locals := 24 } : Room).slots) (fun n v L a b q f => ⟨_, a, b, v, L, rfl, q, f⟩)
    exact ⟨t, o, castTop (ef_5 m a1 q2) st, a, b, v, L, e1, q, fe⟩
  intro K fin
  show own_Go p e below K (s₁.setTop (mkF m 0 #[.val (.ref a1), .val (.long q2), .second] []))
  refine own_st (fun t k => XS.aloadN X0.here hx rfl (hb hby d5_0) rfl rfl k) ?_
  show own_Go p e below K (s₁.setTop (mkF m 1 #[.val (.ref a1), .val (.long q2), .second] [(.ref a1)]))
  obtain ⟨_, _, ⟨T1, L1, k1, n1⟩, -, X1, ⟨Lc1, hQ1, l1, y1, z1⟩, st1⟩ := X0.specialBack hx (y := (⟨"java/lang/Number", "<init>", "()V"⟩ : MethodName)) rfl hown (mvT hZ (hw _ (List.mem_of_getElem? (i := 38) rfl))) (mvT hZ (hw _ (List.mem_of_getElem? (i := 39) rfl))) (mvT hZ (hw _ (List.mem_of_getElem? (i := 43) rfl))) (by decide) (backOf (W := 0) (rm6 l Z a0 hw [] a1 h0 n0 Z0) hZ (hw _ (List.mem_of_getElem? (i := 43) rfl)) (hw _ (List.mem_of_getElem? (i := 42) rfl)) (by decide) (by decide)) (g := (mkF m 1 #[.val (.ref a1), .val (.long q2), .second] [(.ref a1)])) rfl (by rw [hml]; rfl) (Steps.refl _) (a := a1) (argsL := []) (rest := []) (lenOf pd_5_1 rfl) rfl (by show 2 * 0 + _ ≤ _; exact Nat.le_of_eq rfl) (hb hby d5_1) (fun _ _ => ⟨rfl, e0, (by decide : 0 + 0 ≤ _), (by decide : 0 + 0 ≤ _)⟩)
  dsimp only [Pt.U, Pt.locs, Pt.cells, Pt.slots] at X1 l1 y1 z1 st1 hQ1
  subst l1 y1 z1
  obtain ⟨rfl, N1q, e1⟩ := hQ1
  have N1 := Fr.app N0 N1q
  refine own_tr st1 ?_
  show own_Go p e below K (T1.setTop (mkF m 4 #[.val (.ref a1), .val (.long q2), .second] []))
  refine own_st (fun t k => XS.aloadN X1.here hx rfl (hb hby d5_4) rfl rfl k) ?_
  show own_Go p e below K (T1.setTop (mkF m 5 #[.val (.ref a1), .val (.long q2), .second] [(.ref a1)]))
  refine own_st (fun t k => XS.lloadN X1.here hx rfl (hb hby d5_5) rfl k) ?_
  show own_Go p e below K (T1.setTop (mkF m 6 #[.val (.ref a1), .val (.long q2), .second] [(.long q2), (.ref a1)]))
  obtain ⟨T2, h2, X2, e2, W2, st2⟩ := putF X1 hx hZ hown (host := "") (Or.inl (hw _ (List.mem_of_getElem? (i := 45) rfl))) Via.refl e1 P1 P0 (Or.inr ⟨(hw _ (List.mem_of_getElem? (i := 46) rfl)), rfl, hnm⟩) (hw _ (List.mem_of_getElem? (i := 33) rfl)) (ty := .long) (by decide) rfl rfl (g := (mkF m 6 #[.val (.ref a1), .val (.long q2), .second] [(.long q2), (.ref a1)])) rfl rfl (hb hby d5_6)
  have fw2 : Fld Z h2 a1 "java/lang/Long" "value" "J" (.long q2) := P1.same W2
  have f3 : Exa Z h2 a1 "java/lang/Long" := P0.wr W2
  have N2 := Fr.snoc X2 N1 g_a1
  have Z2 : n0 ≤ h2.size := Nat.le_trans Z0 (Keep.of_wr W2).1
  have K2 : Keep h0 h2 [a1] := (Keep.refl h0 [a1]).wr W2 (Or.inl (List.mem_of_getElem? (i := 0) rfl))
  refine own_st st2 ?_
  show own_Go p e below K (T2.setTop (mkF m 9 #[.val (.ref a1), .val (.long q2), .second] []))
  obtain ⟨fs, hr, hrun, hended, hW, hsame⟩ := X2.leave (v := none) (fun _ => rfl)
  refine ⟨_, X2.returnOut hx Bd.returns (hb hby d5_9) hr, fin _ _ _ hrun hended ?_ ⟨⟨_, rfl⟩, hW, hsame.mono (by decide) (by decide)⟩⟩
  show Q5 Z a1 q2 h0 n0 _ T2.heap _
  rw [e2]
  exact ⟨rfl, N2, K2, f3⟩
theorem d4_0 : decode jdk_35_method_24_code 0 = .ok (.sipush 128, 3) := by decide +kernel
theorem d4_3 : decode jdk_35_method_24_code 3 = .ok (.istore_n 2, 1) := by decide +kernel
theorem d4_4 : decode jdk_35_method_24_code 4 = .ok (.lload_n 0, 1) := by decide +kernel
theorem d4_5 : decode jdk_35_method_24_code 5 = .ok (.ldc2_w 230, 3) := by decide +kernel
theorem d4_8 : decode jdk_35_method_24_code 8 = .ok (.lcmp, 1) := by decide +kernel
theorem d4_9 : decode jdk_35_method_24_code 9 = .ok (.ifCond .lt 22, 3) := by decide +kernel
theorem d4_12 : decode jdk_35_method_24_code 12 = .ok (.lload_n 0, 1) := by decide +kernel
theorem d4_13 : decode jdk_35_method_24_code 13 = .ok (.ldc2_w 232, 3) := by decide +kernel
theorem d4_16 : decode jdk_35_method_24_code 16 = .ok (.lcmp, 1) := by decide +kernel
theorem d4_17 : decode jdk_35_method_24_code 17 = .ok (.ifCond .gt 14, 3) := by decide +kernel
theorem d4_20 : decode jdk_35_method_24_code 20 = .ok (.getstatic 234, 3) := by decide +kernel
theorem d4_23 : decode jdk_35_method_24_code 23 = .ok (.lload_n 0, 1) := by decide +kernel
theorem d4_24 : decode jdk_35_method_24_code 24 = .ok (.l2i, 1) := by decide +kernel
theorem d4_25 : decode jdk_35_method_24_code 25 = .ok (.sipush 128, 3) := by decide +kernel
theorem d4_28 : decode jdk_35_method_24_code 28 = .ok (.iadd, 1) := by decide +kernel
theorem d4_29 : decode jdk_35_method_24_code 29 = .ok (.aaload, 1) := by decide +kernel
theorem d4_30 : decode jdk_35_method_24_code 30 = .ok (.areturn, 1) := by decide +kernel
theorem d4_31 : decode jdk_35_method_24_code 31 = .ok (.new 1, 3) := by decide +kernel
theorem d4_34 : decode jdk_35_method_24_code 34 = .ok (.dup, 1) := by decide +kernel
theorem d4_35 : decode jdk_35_method_24_code 35 = .ok (.lload_n 0, 1) := by decide +kernel
theorem d4_36 : decode jdk_35_method_24_code 36 = .ok (.invokespecial 240, 3) := by decide +kernel
theorem d4_39 : decode jdk_35_method_24_code 39 = .ok (.areturn, 1) := by decide +kernel
theorem pn_4 : plainName "java/lang/Long" = true := by first | (simp [plainName, overriddenIn]; done) | decide +kernel
theorem pd_4_4 : parseMethodDescriptor "(J)V" = some ⟨[.long], none⟩ := by decide +kernel
theorem ef_4 (m : MethodId) (x0 : Int64) : entryFrame m #[(.long x0)] 3 = mkF m 0 #[.val (.long x0), .second, .unset] [] := by first | (simp [entryFrame, mkF, argsToLocals, Value.category]; done) | rfl
def Q4 (Z : State) (q1 : Int64) (xc : Addr) (h0 : Heap) (n0 : Nat) (v : Option Value) (h : Heap) (L : List Loc) : Prop := ∃ (r : Addr), v = some (.ref r) ∧ (True) ∧ Fr n0 L ∧ Keep h0 h [] ∧ (Exa Z h r "java/lang/Long")
set_option maxRecDepth 65536 in
set_option maxHeartbeats 40000000 in
theorem rm4 (l : Launch) (Z : State) (a0 : Array Value) (hw : ∀ d ∈ tables_1, d.before a0 Z = true) (ws : List Jvm.Cond) (q1 : Int64) (xc : Addr) (h0 : Heap) (n0 : Nat) (Z0 : n0 ≤ h0.size) (P0 : Old Z n0 h0) (SC : Sta Z Z.heap "java/lang/Long$LongCache" "cache" "[Ljava/lang/Long;" (.ref xc)) (hC : ∃ cl : Cell, Arr Z Z.heap xc cl (.object "java/lang/Long") ∧ cl.slots.size = 256 ∧ ∀ j, j < 256 → ∃ w, cl.slots[j]? = some (.ref w) ∧ Exa Z Z.heap w "java/lang/Long") :
    MetFree l (⟨"java/lang/Long", "valueOf", "(J)Ljava/lang/Long;"⟩ : MethodName) (head1 (Jvm.Cond.code (⟨"java/lang/Long", "valueOf", "(J)Ljava/lang/Long;"⟩ : MethodName) jdk_35_method_24_code 3 (some (.object "java/lang/Long")) :: ws) ({ frames := 3, cells := 1, slots := 1, locals := 39 } : Room)) (fun a U => a = #[(.long q1)] ∧ Z.Warmed39 U.vm ∧ U.heap = h0) (fun _ _ _ _ _ => True) (fun _ U o U' => ∃ v L, o = .returned v ∧ Q4 Z q1 xc h0 n0 v U'.heap L ∧ FrameEnd U o U' L ({ frames := 3, cells := 1, slots := 1, locals := 39 } : Room).cells ({ frames := 3, cells := 1, slots := 1, locals := 39 } : Room).slots) := by
  refine MetFree.of_bodySF (plainFor_of_name pn_4) hisR ?_
  intro p e s m args below meth c s₁ Bd hml0 hP hK
  obtain ⟨rfl, hZ, hh⟩ := hP
  have hx := Bd.exec
  have hby := Bd.bytes
  have hml : c.maxLocals = 3 := hml0
  have hown : s.vm.findClass "java/lang/Long" = some m.cls := findClass_of_methodNamed Bd.named
  have hnm := (name_of_methodNamed Bd.named Bd.method).1
  have X0 : Stand p l e ({ frames := 3, cells := 1, slots := 1, locals := 39 } : Room) s m #[(.long q1)] below meth c s₁ [] 0 0 := Stand.of_body Bd
  have e0 : s₁.heap = h0 := by rw [← hh, Bd.state]; rfl
  have N0 := Fr.nil n0
  suffices G0 : ∀ K : State → Prop, (∀ (n : State) (v : Option Value) (L : List Loc), n.status = .running → Ended n below (.returned v) → Q4 Z q1 xc h0 n0 v n.heap L → FrameEnd s (.returned v) n L ({ frames := 3, cells := 1, slots := 1, locals := 39 } : Room).cells ({ frames := 3, cells := 1, slots := 1, locals := 39 } : Room).slots → K n) → own_Go p e below K (s₁.setTop (mkF m 0 #[.val (.long q1), .second, .unset] [])) by
    obtain ⟨t, st, o, a, b, v, L, e1, q, fe⟩ := G0 (fun n => ∃ o, n.status = .running ∧ Ended n below o ∧ ∃ v L, o = .returned v ∧ Q4 Z q1 xc h0 n0 v n.heap L ∧ FrameEnd s o n L ({ frames := 3, cells := 1, slots := 1, locals := 39 } : Room).cells ({ frames := 3, cells := 1, slots := 1, locals := 39 } : Room).slots) (fun n v L a b q f => ⟨_, a, b, v, L, rfl, q, f⟩)
    exact ⟨t, o, castTop (ef_4 m q1) st, a, b, v, L, e1, q, fe⟩
  intro K fin
  show own_Go p e below K (s₁.setTop (mkF m 0 #[.val (.long q1), .second, .unset] []))
  refine own_st (fun t k => XS.sipush X0.here hx rfl (hb hby d4_0) k) ?_
  show own_Go p e below K (s₁.setTop (mkF m 3 #[.val (.long q1), .second, .unset] [(.int (128 : Int32))]))
  refine own_st (fun t k => XS.istoreN X0.here hx rfl (hb hby d4_3) rfl (l' := #[.val (.long q1), .second, .val (.int (128 : Int32))]) rfl k) ?_
  show own_Go p e below K (s₁.setTop (mkF m 4 #[.val (.long q1), .second, .val (.int (128 : Int32))] []))
  refine own_st (fun t k => XS.lloadN X0.here hx rfl (hb hby d4_4) rfl k) ?_
  show own_Go p e below K (s₁.setTop (mkF m 5 #[.val (.long q1), .second, .val (.int (128 : Int32))] [(.long q1)]))
  refine own_st (X0.ldc2Long hx hown (mvT hZ (hw _ (List.mem_of_getElem? (i := 30) rfl))) (g := (mkF m 5 #[.val (.long q1), .second, .val (.int (128 : Int32))] [(.long q1)])) rfl (hb hby d4_5)) ?_
  show own_Go p e below K (s₁.setTop (mkF m 8 #[.val (.long q1), .second, .val (.int (128 : Int32))] [(.long (-128 : Int64)), (.long q1)]))
  refine own_st (fun t k => XS.lcmp X0.here hx rfl (hb hby d4_8) rfl k) ?_
  show own_Go p e below K (s₁.setTop (mkF m 9 #[.val (.long q1), .second, .val (.int (128 : Int32))] [(.int (lcmpW q1 (-128 : Int64)))]))
  by_cases hc9 : q1 < (-128 : Int64)
  · refine own_st (fun t k => XS.ifYes X0.here hx rfl (pc0 := 9) (pc' := 31) rfl (hb hby d4_9) rfl ((if0 _ _).trans (tlt ((lw_lt q1 (-128 : Int64)).mpr hc9)).1) (by decide) (by decide) k) ?_
    show own_Go p e below K (s₁.setTop (mkF m 31 #[.val (.long q1), .second, .val (.int (128 : Int32))] []))
    obtain ⟨T1, h1, X1, e1, E1, A1, D1, -, st1⟩ := newO X0 hx hZ hown (hw _ (List.mem_of_getElem? (i := 32) rfl)) (hw _ (List.mem_of_getElem? (i := 33) rfl)) (hw _ (List.mem_of_getElem? (i := 28) rfl)) e0 (g := (mkF m 31 #[.val (.long q1), .second, .val (.int (128 : Int32))] [])) rfl (hb hby d4_31) (by decide) (by decide)
    obtain ⟨b1, g1⟩ : ∃ z, z = h0.size := ⟨_, rfl⟩
    rw [← g1] at A1 D1 st1
    have g_b1 : n0 ≤ b1 := Nat.le_trans Z0 (Nat.le_of_eq g1.symm)
    have sz_b1 : h0.size ≤ b1 := Nat.le_trans (Keep.refl h0 []).1 (Nat.le_of_eq g1.symm)
    have f2 : Old Z n0 h1 := P0.ext E1
    have f3 : Fld Z h1 b1 "java/lang/Long" "value" "J" (.long (0 : Int64)) := D1 (Or.inr (hw _ (List.mem_of_getElem? (i := 46) rfl))) (ty := .long) (by decide)
    have Z1 : n0 ≤ h1.size := Nat.le_trans Z0 E1.1
    have K1 : Keep h0 h1 [] := (Keep.refl h0 []).ext E1
    refine own_st st1 ?_
    show own_Go p e below K (T1.setTop (mkF m 34 #[.val (.long q1), .second, .val (.int (128 : Int32))] [(.ref b1)]))
    refine own_st (fun t k => XS.dup X1.here hx rfl (hb hby d4_34) rfl rfl k) ?_
    show own_Go p e below K (T1.setTop (mkF m 35 #[.val (.long q1), .second, .val (.int (128 : Int32))] [(.ref b1), (.ref b1)]))
    refine own_st (fun t k => XS.lloadN X1.here hx rfl (hb hby d4_35) rfl k) ?_
    show own_Go p e below K (T1.setTop (mkF m 36 #[.val (.long q1), .second, .val (.int (128 : Int32))] [(.long q1), (.ref b1), (.ref b1)]))
    obtain ⟨_, _, ⟨T4, L4, k4, n4⟩, -, X4, ⟨Lc4, hQ4, l4, y4, z4⟩, st4⟩ := X1.specialBack hx (y := (⟨"java/lang/Long", "<init>", "(J)V"⟩ : MethodName)) rfl hown (mvT hZ (hw _ (List.mem_of_getElem? (i := 34) rfl))) (mvT hZ (hw _ (List.mem_of_getElem? (i := 35) rfl))) (mvT hZ (hw _ (List.mem_of_getElem? (i := 37) rfl))) (by decide) (backOf (W := 1) (rm5 l Z a0 hw [] b1 q1 h1 n0 Z1 g_b1 A1 f3) hZ (hw _ (List.mem_of_getElem? (i := 37) rfl)) (hw _ (List.mem_of_getElem? (i := 28) rfl)) (by decide) (by decide)) (g := (mkF m 36 #[.val (.long q1), .second, .val (.int (128 : Int32))] [(.long q1), (.ref b1), (.ref b1)])) rfl (by rw [hml]; rfl) (Steps.refl _) (a := b1) (argsL := [(.long q1)]) (rest := [(.ref b1)]) (lenOf pd_4_4 rfl) rfl (by show 2 * 0 + _ ≤ _; exact Nat.le_of_eq rfl) (hb hby d4_36) (fun _ _ => ⟨rfl, e1, (by decide : 1 + 0 ≤ _), (by decide : 1 + 0 ≤ _)⟩)
    dsimp only [Pt.U, Pt.locs, Pt.cells, Pt.slots] at X4 l4 y4 z4 st4 hQ4
    subst l4 y4 z4
    obtain ⟨rfl, N4q, Kq4, p4_0⟩ := hQ4
    have N4 := Fr.app N0 N4q
    have f5 : Old Z n0 T4.heap := f2.keep Kq4 (allS (P := fun x => n0 ≤ x) g_b1 all0)
    have Z4 : n0 ≤ T4.heap.size := Nat.le_trans Z1 Kq4.1
    have K4 : Keep h0 T4.heap [] := K1.trans Kq4 (allS (P := fun x => x ∈ [] ∨ h0.size ≤ x) (Or.inr sz_b1) all0)
    refine own_tr st4 ?_
    show own_Go p e below K (T4.setTop (mkF m 39 #[.val (.long q1), .second, .val (.int (128 : Int32))] [(.ref b1)]))
    obtain ⟨fs, hr, hrun, hended, hW, hsame⟩ := X4.leave (v := some (.ref b1)) (fun h => by rw [Bd.returns] at h; cases h)
    refine ⟨_, X4.areturnOut hx rfl Bd.returns rfl (hb hby d4_39) hr, fin _ _ _ hrun hended ?_ ⟨⟨_, rfl⟩, hW, hsame.mono (by decide) (by decide)⟩⟩
    show Q4 Z q1 xc h0 n0 _ T4.heap _
    exact ⟨_, rfl, trivial, N4, K4, p4_0⟩
  refine own_st (fun t k => XS.ifNo X0.here hx rfl (hb hby d4_9) rfl ((if0 _ _).trans (flt (fun q => hc9 ((lw_lt q1 (-128 : Int64)).mp q))).1) k) ?_
  show own_Go p e below K (s₁.setTop (mkF m 12 #[.val (.long q1), .second, .val (.int (128 : Int32))] []))
  refine own_st (fun t k => XS.lloadN X0.here hx rfl (hb hby d4_12) rfl k) ?_
  show own_Go p e below K (s₁.setTop (mkF m 13 #[.val (.long q1), .second, .val (.int (128 : Int32))] [(.long q1)]))
  refine own_st (X0.ldc2Long hx hown (mvT hZ (hw _ (List.mem_of_getElem? (i := 31) rfl))) (g := (mkF m 13 #[.val (.long q1), .second, .val (.int (128 : Int32))] [(.long q1)])) rfl (hb hby d4_13)) ?_
  show own_Go p e below K (s₁.setTop (mkF m 16 #[.val (.long q1), .second, .val (.int (128 : Int32))] [(.long (127 : Int64)), (.long q1)]))
  refine own_st (fun t k => XS.lcmp X0.here hx rfl (hb hby d4_16) rfl k) ?_
  show own_Go p e below K (s₁.setTop (mkF m 17 #[.val (.long q1), .second, .val (.int (128 : Int32))] [(.int (lcmpW q1 (127 : Int64)))]))
  by_cases hc17 : (127 : Int64) < q1
  · refine own_st (fun t k => XS.ifYes X0.here hx rfl (pc0 := 17) (pc' := 31) rfl (hb hby d4_17) rfl ((if0 _ _).trans (tlt ((lw_gt q1 (127 : Int64)).mpr hc17)).2.2.1) (by decide) (by decide) k) ?_
    show own_Go p e below K (s₁.setTop (mkF m 31 #[.val (.long q1), .second, .val (.int (128 : Int32))] []))
    obtain ⟨T6, h6, X6, e6, E6, A6, D6, -, st6⟩ := newO X0 hx hZ hown (hw _ (List.mem_of_getElem? (i := 32) rfl)) (hw _ (List.mem_of_getElem? (i := 33) rfl)) (hw _ (List.mem_of_getElem? (i := 28) rfl)) e0 (g := (mkF m 31 #[.val (.long q1), .second, .val (.int (128 : Int32))] [])) rfl (hb hby d4_31) (by decide) (by decide)
    obtain ⟨b6, g6⟩ : ∃ z, z = h0.size := ⟨_, rfl⟩
    rw [← g6] at A6 D6 st6
    have g_b6 : n0 ≤ b6 := Nat.le_trans Z0 (Nat.le_of_eq g6.symm)
    have sz_b6 : h0.size ≤ b6 := Nat.le_trans (Keep.refl h0 []).1 (Nat.le_of_eq g6.symm)
    have f7 : Old Z n0 h6 := P0.ext E6
    have f8 : Fld Z h6 b6 "java/lang/Long" "value" "J" (.long (0 : Int64)) := D6 (Or.inr (hw _ (List.mem_of_getElem? (i := 46) rfl))) (ty := .long) (by decide)
    have Z6 : n0 ≤ h6.size := Nat.le_trans Z0 E6.1
    have K6 : Keep h0 h6 [] := (Keep.refl h0 []).ext E6
    refine own_st st6 ?_
    show own_Go p e below K (T6.setTop (mkF m 34 #[.val (.long q1), .second, .val (.int (128 : Int32))] [(.ref b6)]))
    refine own_st (fun t k => XS.dup X6.here hx rfl (hb hby d4_34) rfl rfl k) ?_
    show own_Go p e below K (T6.setTop (mkF m 35 #[.val (.long q1), .second, .val (.int (128 : Int32))] [(.ref b6), (.ref b6)]))
    refine own_st (fun t k => XS.lloadN X6.here hx rfl (hb hby d4_35) rfl k) ?_
    show own_Go p e below K (T6.setTop (mkF m 36 #[.val (.long q1), .second, .val (.int (128 : Int32))] [(.long q1), (.ref b6), (.ref b6)]))
    obtain ⟨_, _, ⟨T9, L9, k9, n9⟩, -, X9, ⟨Lc9, hQ9, l9, y9, z9⟩, st9⟩ := X6.specialBack hx (y := (⟨"java/lang/Long", "<init>", "(J)V"⟩ : MethodName)) rfl hown (mvT hZ (hw _ (List.mem_of_getElem? (i := 34) rfl))) (mvT hZ (hw _ (List.mem_of_getElem? (i := 35) rfl))) (mvT hZ (hw _ (List.mem_of_getElem? (i := 37) rfl))) (by decide) (backOf (W := 1) (rm5 l Z a0 hw [] b6 q1 h6 n0 Z6 g_b6 A6 f8) hZ (hw _ (List.mem_of_getElem? (i := 37) rfl)) (hw _ (List.mem_of_getElem? (i := 28) rfl)) (by decide) (by decide)) (g := (mkF m 36 #[.val (.long q1), .second, .val (.int (128 : Int32))] [(.long q1), (.ref b6), (.ref b6)])) rfl (by rw [hml]; rfl) (Steps.refl _) (a := b6) (argsL := [(.long q1)]) (rest := [(.ref b6)]) (lenOf pd_4_4 rfl) rfl (by show 2 * 0 + _ ≤ _; exact Nat.le_of_eq rfl) (hb hby d4_36) (fun _ _ => ⟨rfl, e6, (by decide : 1 + 0 ≤ _), (by decide : 1 + 0 ≤ _)⟩)
    dsimp only [Pt.U, Pt.locs, Pt.cells, Pt.slots] at X9 l9 y9 z9 st9 hQ9
    subst l9 y9 z9
    obtain ⟨rfl, N9q, Kq9, p9_0⟩ := hQ9
    have N9 := Fr.app N0 N9q
    have f10 : Old Z n0 T9.heap := f7.keep Kq9 (allS (P := fun x => n0 ≤ x) g_b6 all0)
    have Z9 : n0 ≤ T9.heap.size := Nat.le_trans Z6 Kq9.1
    have K9 : Keep h0 T9.heap [] := K6.trans Kq9 (allS (P := fun x => x ∈ [] ∨ h0.size ≤ x) (Or.inr sz_b6) all0)
    refine own_tr st9 ?_
    show own_Go p e below K (T9.setTop (mkF m 39 #[.val (.long q1), .second, .val (.int (128 : Int32))] [(.ref b6)]))
    obtain ⟨fs, hr, hrun, hended, hW, hsame⟩ := X9.leave (v := some (.ref b6)) (fun h => by rw [Bd.returns] at h; cases h)
    refine ⟨_, X9.areturnOut hx rfl Bd.returns rfl (hb hby d4_39) hr, fin _ _ _ hrun hended ?_ ⟨⟨_, rfl⟩, hW, hsame.mono (by decide) (by decide)⟩⟩
    show Q4 Z q1 xc h0 n0 _ T9.heap _
    exact ⟨_, rfl, trivial, N9, K9, p9_0⟩
  refine own_st (fun t k => XS.ifNo X0.here hx rfl (hb hby d4_17) rfl ((if0 _ _).trans (flt (fun q => hc17 ((lw_gt q1 (127 : Int64)).mp q))).2.2.1) k) ?_
  show own_Go p e below K (s₁.setTop (mkF m 20 #[.val (.long q1), .second, .val (.int (128 : Int32))] []))
  obtain ⟨T11, X11, e11, st11⟩ := getS2 X0 hx hZ hown (host := "") (Or.inl (hw _ (List.mem_of_getElem? (i := 50) rfl))) Via.refl e0 (SC.ext P0.2) (g := (mkF m 20 #[.val (.long q1), .second, .val (.int (128 : Int32))] [])) rfl (hb hby d4_20)
  refine own_st st11 ?_
  show own_Go p e below K (T11.setTop (mkF m 23 #[.val (.long q1), .second, .val (.int (128 : Int32))] [(.ref xc)]))
  refine own_st (fun t k => XS.lloadN X11.here hx rfl (hb hby d4_23) rfl k) ?_
  show own_Go p e below K (T11.setTop (mkF m 24 #[.val (.long q1), .second, .val (.int (128 : Int32))] [(.long q1), (.ref xc)]))
  refine own_st (fun t k => XS.l2i X11.here hx rfl (hb hby d4_24) rfl k) ?_
  show own_Go p e below K (T11.setTop (mkF m 25 #[.val (.long q1), .second, .val (.int (128 : Int32))] [(.int (q1.toInt32)), (.ref xc)]))
  refine own_st (fun t k => XS.sipush X11.here hx rfl (hb hby d4_25) k) ?_
  show own_Go p e below K (T11.setTop (mkF m 28 #[.val (.long q1), .second, .val (.int (128 : Int32))] [(.int (128 : Int32)), (.int (q1.toInt32)), (.ref xc)]))
  refine own_st (fun t k => XS.iadd X11.here hx rfl (hb hby d4_28) rfl k) ?_
  show own_Go p e below K (T11.setTop (mkF m 29 #[.val (.long q1), .second, .val (.int (128 : Int32))] [(.int ((q1.toInt32) + (128 : Int32))), (.ref xc)]))
  obtain ⟨clC, ArC0, szC, elC⟩ := hC
  have BC := own_ci hc9 hc17
  obtain ⟨wC, hatC, EwC0⟩ := elC (((q1.toInt32) + (128 : Int32))).toNatClampNeg (by have z : (((q1.toInt32) + (128 : Int32))).toNatClampNeg = (((q1.toInt32) + (128 : Int32))).toInt.toNat := rfl; omega)
  have ArC := ArC0.ext P0.2
  have EwC := EwC0.ext P0.2
  have hinC : ¬ (((q1.toInt32) + (128 : Int32)) < 0 ∨ clC.slots.size ≤ (((q1.toInt32) + (128 : Int32))).toNatClampNeg) := by rw [szC]; rintro (q | q); exact own_nlt (show (0 : Int32).toInt ≤ _ from BC.1) q; have z : (((q1.toInt32) + (128 : Int32))).toNatClampNeg = (((q1.toInt32) + (128 : Int32))).toInt.toNat := rfl; omega
  refine own_st (X11.aaload hx (j := ((q1.toInt32) + (128 : Int32))) (v := (.ref wC)) (own_hat e11 ArC.1) (State.isArrayOf_alike hZ.alike ArC.2.1) rfl ArC.2.2 hinC hatC (g := (mkF m 29 #[.val (.long q1), .second, .val (.int (128 : Int32))] [(.int ((q1.toInt32) + (128 : Int32))), (.ref xc)])) rfl rfl (hb hby d4_29)) ?_
  show own_Go p e below K (T11.setTop (mkF m 30 #[.val (.long q1), .second, .val (.int (128 : Int32))] [(.ref wC)]))
  obtain ⟨fs, hr, hrun, hended, hW, hsame⟩ := X11.leave (v := some (.ref wC)) (fun h => by rw [Bd.returns] at h; cases h)
  refine ⟨_, X11.areturnOut hx rfl Bd.returns rfl (hb hby d4_30) hr, fin _ _ _ hrun hended ?_ ⟨⟨_, rfl⟩, hW, hsame.mono (by decide) (by decide)⟩⟩
  show Q4 Z q1 xc h0 n0 _ T11.heap _
  rw [e11]
  exact ⟨_, rfl, trivial, N0, (Keep.refl h0 []), EwC⟩
theorem pn_0 : plainName "com/example/expire_then_sweep/expirethensweep/model/ContainerStatsEqualsPinLaw" = true := by first | (simp [plainName, overriddenIn]; done) | decide +kernel
theorem pd_0_0 : parseMethodDescriptor "(JJJJJ)V" = some ⟨[.long, .long, .long, .long, .long], none⟩ := by decide +kernel
theorem pd_0_2 : parseMethodDescriptor "(Ljava/lang/Object;)Z" = some ⟨[(.object "java/lang/Object")], some .boolean⟩ := by decide +kernel
theorem pd_0_3 : parseMethodDescriptor "(J)Ljava/lang/Long;" = some ⟨[.long], some (.object "java/lang/Long")⟩ := by decide +kernel
theorem ef_0 (m : MethodId) (x0 : Int64) (x1 : Int64) (x2 : Int64) (x3 : Int64) (x4 : Int64) (x5 : Int32) : entryFrame m #[(.long x0), (.long x1), (.long x2), (.long x3), (.long x4), (.int x5)] maxLocals = mkF m 0 #[.val (.long x0), .second, .val (.long x1), .second, .val (.long x2), .second, .val (.long x3), .second, .val (.long x4), .second, .val (.int x5), .unset, .unset, .unset, .unset, .unset, .unset, .unset, .unset, .unset, .unset, .unset, .unset, .unset, .unset, .unset, .unset, .unset, .unset, .unset, .unset] [] := by first | (simp [entryFrame, mkF, argsToLocals, Value.category, maxLocals]; done) | rfl
def Q0 (Z : State) (q1 : Int64) (q2 : Int64) (q3 : Int64) (q4 : Int64) (q5 : Int64) (p6 : Int32) (xc : Addr) (h0 : Heap) (n0 : Nat) (v : Option Value) (h : Heap) (L : List Loc) : Prop := v = some (.int 1) ∧ Fr n0 L
set_option maxRecDepth 65536 in
set_option maxHeartbeats 40000000 in
theorem rm0 (l : Launch) (Z : State) (a0 : Array Value) (hw : ∀ d ∈ tables_1, d.before a0 Z = true) (ws : List Jvm.Cond) (q1 : Int64) (q2 : Int64) (q3 : Int64) (q4 : Int64) (q5 : Int64) (p6 : Int32) (xc : Addr) (h0 : Heap) (n0 : Nat) (Z0 : n0 ≤ h0.size) (P0 : Old Z n0 h0) (SC : Sta Z Z.heap "java/lang/Long$LongCache" "cache" "[Ljava/lang/Long;" (.ref xc)) (hC : ∃ cl : Cell, Arr Z Z.heap xc cl (.object "java/lang/Long") ∧ cl.slots.size = 256 ∧ ∀ j, j < 256 → ∃ w, cl.slots[j]? = some (.ref w) ∧ Exa Z Z.heap w "java/lang/Long") :
    MetFree l x (head1 (Jvm.Cond.code x code maxLocals ret :: ws) room_1) (fun a U => a = #[(.long q1), (.long q2), (.long q3), (.long q4), (.long q5), (.int p6)] ∧ Z.Warmed39 U.vm ∧ U.heap = h0) (fun _ _ _ _ _ => True) (fun _ U o U' => ∃ v L, o = .returned v ∧ Q0 Z q1 q2 q3 q4 q5 p6 xc h0 n0 v U'.heap L ∧ FrameEnd U o U' L 3 11) := by
  refine MetFree.of_bodySF (plainFor_of_name pn_0) hisR ?_
  intro p e s m args below meth c s₁ Bd hml0 hP hK
  obtain ⟨rfl, hZ, hh⟩ := hP
  have hx := Bd.exec
  have hby := Bd.bytes
  have hml : c.maxLocals = 31 := hml0
  have hown : s.vm.findClass "com/example/expire_then_sweep/expirethensweep/model/ContainerStatsEqualsPinLaw" = some m.cls := findClass_of_methodNamed Bd.named
  have hnm := (name_of_methodNamed Bd.named Bd.method).1
  have X0 : Stand p l e room_1 s m #[(.long q1), (.long q2), (.long q3), (.long q4), (.long q5), (.int p6)] below meth c s₁ [] 0 0 := Stand.of_body Bd
  have e0 : s₁.heap = h0 := by rw [← hh, Bd.state]; rfl
  have N0 := Fr.nil n0
  suffices G0 : ∀ K : State → Prop, (∀ (n : State) (v : Option Value) (L : List Loc), n.status = .running → Ended n below (.returned v) → Q0 Z q1 q2 q3 q4 q5 p6 xc h0 n0 v n.heap L → FrameEnd s (.returned v) n L 3 11 → K n) → own_Go p e below K (s₁.setTop (mkF m 0 #[.val (.long q1), .second, .val (.long q2), .second, .val (.long q3), .second, .val (.long q4), .second, .val (.long q5), .second, .val (.int p6), .unset, .unset, .unset, .unset, .unset, .unset, .unset, .unset, .unset, .unset, .unset, .unset, .unset, .unset, .unset, .unset, .unset, .unset, .unset, .unset] [])) by
    obtain ⟨t, st, o, a, b, v, L, e1, q, fe⟩ := G0 (fun n => ∃ o, n.status = .running ∧ Ended n below o ∧ ∃ v L, o = .returned v ∧ Q0 Z q1 q2 q3 q4 q5 p6 xc h0 n0 v n.heap L ∧ FrameEnd s o n L 3 11) (fun n v L a b q f => ⟨_, a, b, v, L, rfl, q, f⟩)
    exact ⟨t, o, castTop (ef_0 m q1 q2 q3 q4 q5 p6) st, a, b, v, L, e1, q, fe⟩
  intro K fin
  show own_Go p e below K (s₁.setTop (mkF m 0 #[.val (.long q1), .second, .val (.long q2), .second, .val (.long q3), .second, .val (.long q4), .second, .val (.long q5), .second, .val (.int p6), .unset, .unset, .unset, .unset, .unset, .unset, .unset, .unset, .unset, .unset, .unset, .unset, .unset, .unset, .unset, .unset, .unset, .unset, .unset, .unset] []))
  refine own_st (fun t k => XS.iload X0.here hx rfl (hb hby at_0) rfl k) ?_
  show own_Go p e below K (s₁.setTop (mkF m 2 #[.val (.long q1), .second, .val (.long q2), .second, .val (.long q3), .second, .val (.long q4), .second, .val (.long q5), .second, .val (.int p6), .unset, .unset, .unset, .unset, .unset, .unset, .unset, .unset, .unset, .unset, .unset, .unset, .unset, .unset, .unset, .unset, .unset, .unset, .unset, .unset] [(.int p6)]))
  refine own_st (fun t k => XS.bipush X0.here hx rfl (hb hby at_2) k) ?_
  show own_Go p e below K (s₁.setTop (mkF m 4 #[.val (.long q1), .second, .val (.long q2), .second, .val (.long q3), .second, .val (.long q4), .second, .val (.long q5), .second, .val (.int p6), .unset, .unset, .unset, .unset, .unset, .unset, .unset, .unset, .unset, .unset, .unset, .unset, .unset, .unset, .unset, .unset, .unset, .unset, .unset, .unset] [(.int (31 : Int32)), (.int p6)]))
  refine own_st (fun t k => XS.iand X0.here hx rfl (hb hby at_4) rfl k) ?_
  show own_Go p e below K (s₁.setTop (mkF m 5 #[.val (.long q1), .second, .val (.long q2), .second, .val (.long q3), .second, .val (.long q4), .second, .val (.long q5), .second, .val (.int p6), .unset, .unset, .unset, .unset, .unset, .unset, .unset, .unset, .unset, .unset, .unset, .unset, .unset, .unset, .unset, .unset, .unset, .unset, .unset, .unset] [(.int (p6 &&& (31 : Int32)))]))
  generalize hmk : (p6 &&& (31 : Int32)) = mk
  show own_Go p e below K (s₁.setTop (mkF m 5 #[.val (.long q1), .second, .val (.long q2), .second, .val (.long q3), .second, .val (.long q4), .second, .val (.long q5), .second, .val (.int p6), .unset, .unset, .unset, .unset, .unset, .unset, .unset, .unset, .unset, .unset, .unset, .unset, .unset, .unset, .unset, .unset, .unset, .unset, .unset, .unset] [(.int mk)]))
  refine own_st (fun t k => XS.istore X0.here hx rfl (hb hby at_5) rfl (l' := #[.val (.long q1), .second, .val (.long q2), .second, .val (.long q3), .second, .val (.long q4), .second, .val (.long q5), .second, .val (.int p6), .val (.int mk), .unset, .unset, .unset, .unset, .unset, .unset, .unset, .unset, .unset, .unset, .unset, .unset, .unset, .unset, .unset, .unset, .unset, .unset, .unset]) rfl k) ?_
  show own_Go p e below K (s₁.setTop (mkF m 7 #[.val (.long q1), .second, .val (.long q2), .second, .val (.long q3), .second, .val (.long q4), .second, .val (.long q5), .second, .val (.int p6), .val (.int mk), .unset, .unset, .unset, .unset, .unset, .unset, .unset, .unset, .unset, .unset, .unset, .unset, .unset, .unset, .unset, .unset, .unset, .unset, .unset] []))
  refine own_st (fun t k => XS.iload X0.here hx rfl (hb hby at_7) rfl k) ?_
  show own_Go p e below K (s₁.setTop (mkF m 9 #[.val (.long q1), .second, .val (.long q2), .second, .val (.long q3), .second, .val (.long q4), .second, .val (.long q5), .second, .val (.int p6), .val (.int mk), .unset, .unset, .unset, .unset, .unset, .unset, .unset, .unset, .unset, .unset, .unset, .unset, .unset, .unset, .unset, .unset, .unset, .unset, .unset] [(.int p6)]))
  refine own_st (fun t k => XS.iconst X0.here hx rfl (hb hby at_9) k) ?_
  show own_Go p e below K (s₁.setTop (mkF m 10 #[.val (.long q1), .second, .val (.long q2), .second, .val (.long q3), .second, .val (.long q4), .second, .val (.long q5), .second, .val (.int p6), .val (.int mk), .unset, .unset, .unset, .unset, .unset, .unset, .unset, .unset, .unset, .unset, .unset, .unset, .unset, .unset, .unset, .unset, .unset, .unset, .unset] [(.int (5 : Int32)), (.int p6)]))
  refine own_st (fun t k => XS.iushr X0.here hx rfl (hb hby at_10) rfl k) ?_
  show own_Go p e below K (s₁.setTop (mkF m 11 #[.val (.long q1), .second, .val (.long q2), .second, .val (.long q3), .second, .val (.long q4), .second, .val (.long q5), .second, .val (.int p6), .val (.int mk), .unset, .unset, .unset, .unset, .unset, .unset, .unset, .unset, .unset, .unset, .unset, .unset, .unset, .unset, .unset, .unset, .unset, .unset, .unset] [(.int ((p6.toUInt32 >>> ((5 : Int32) &&& 31).toUInt32).toInt32))]))
  refine own_st (fun t k => XS.iconst X0.here hx rfl (hb hby at_11) k) ?_
  show own_Go p e below K (s₁.setTop (mkF m 12 #[.val (.long q1), .second, .val (.long q2), .second, .val (.long q3), .second, .val (.long q4), .second, .val (.long q5), .second, .val (.int p6), .val (.int mk), .unset, .unset, .unset, .unset, .unset, .unset, .unset, .unset, .unset, .unset, .unset, .unset, .unset, .unset, .unset, .unset, .unset, .unset, .unset] [(.int (3 : Int32)), (.int ((p6.toUInt32 >>> ((5 : Int32) &&& 31).toUInt32).toInt32))]))
  refine own_st (fun t k => XS.iand X0.here hx rfl (hb hby at_12) rfl k) ?_
  show own_Go p e below K (s₁.setTop (mkF m 13 #[.val (.long q1), .second, .val (.long q2), .second, .val (.long q3), .second, .val (.long q4), .second, .val (.long q5), .second, .val (.int p6), .val (.int mk), .unset, .unset, .unset, .unset, .unset, .unset, .unset, .unset, .unset, .unset, .unset, .unset, .unset, .unset, .unset, .unset, .unset, .unset, .unset] [(.int (((p6.toUInt32 >>> ((5 : Int32) &&& 31).toUInt32).toInt32) &&& (3 : Int32)))]))
  generalize hkd : (((p6.toUInt32 >>> ((5 : Int32) &&& 31).toUInt32).toInt32) &&& (3 : Int32)) = kd
  show own_Go p e below K (s₁.setTop (mkF m 13 #[.val (.long q1), .second, .val (.long q2), .second, .val (.long q3), .second, .val (.long q4), .second, .val (.long q5), .second, .val (.int p6), .val (.int mk), .unset, .unset, .unset, .unset, .unset, .unset, .unset, .unset, .unset, .unset, .unset, .unset, .unset, .unset, .unset, .unset, .unset, .unset, .unset] [(.int kd)]))
  refine own_st (fun t k => XS.istore X0.here hx rfl (hb hby at_13) rfl (l' := #[.val (.long q1), .second, .val (.long q2), .second, .val (.long q3), .second, .val (.long q4), .second, .val (.long q5), .second, .val (.int p6), .val (.int mk), .val (.int kd), .unset, .unset, .unset, .unset, .unset, .unset, .unset, .unset, .unset, .unset, .unset, .unset, .unset, .unset, .unset, .unset, .unset, .unset]) rfl k) ?_
  show own_Go p e below K (s₁.setTop (mkF m 15 #[.val (.long q1), .second, .val (.long q2), .second, .val (.long q3), .second, .val (.long q4), .second, .val (.long q5), .second, .val (.int p6), .val (.int mk), .val (.int kd), .unset, .unset, .unset, .unset, .unset, .unset, .unset, .unset, .unset, .unset, .unset, .unset, .unset, .unset, .unset, .unset, .unset, .unset] []))
  refine own_st (fun t k => XS.iload X0.here hx rfl (hb hby at_15) rfl k) ?_
  show own_Go p e below K (s₁.setTop (mkF m 17 #[.val (.long q1), .second, .val (.long q2), .second, .val (.long q3), .second, .val (.long q4), .second, .val (.long q5), .second, .val (.int p6), .val (.int mk), .val (.int kd), .unset, .unset, .unset, .unset, .unset, .unset, .unset, .unset, .unset, .unset, .unset, .unset, .unset, .unset, .unset, .unset, .unset, .unset] [(.int p6)]))
  refine own_st (fun t k => XS.bipush X0.here hx rfl (hb hby at_17) k) ?_
  show own_Go p e below K (s₁.setTop (mkF m 19 #[.val (.long q1), .second, .val (.long q2), .second, .val (.long q3), .second, .val (.long q4), .second, .val (.long q5), .second, .val (.int p6), .val (.int mk), .val (.int kd), .unset, .unset, .unset, .unset, .unset, .unset, .unset, .unset, .unset, .unset, .unset, .unset, .unset, .unset, .unset, .unset, .unset, .unset] [(.int (7 : Int32)), (.int p6)]))
  refine own_st (fun t k => XS.iushr X0.here hx rfl (hb hby at_19) rfl k) ?_
  show own_Go p e below K (s₁.setTop (mkF m 20 #[.val (.long q1), .second, .val (.long q2), .second, .val (.long q3), .second, .val (.long q4), .second, .val (.long q5), .second, .val (.int p6), .val (.int mk), .val (.int kd), .unset, .unset, .unset, .unset, .unset, .unset, .unset, .unset, .unset, .unset, .unset, .unset, .unset, .unset, .unset, .unset, .unset, .unset] [(.int ((p6.toUInt32 >>> ((7 : Int32) &&& 31).toUInt32).toInt32))]))
  refine own_st (fun t k => XS.iconst X0.here hx rfl (hb hby at_20) k) ?_
  show own_Go p e below K (s₁.setTop (mkF m 21 #[.val (.long q1), .second, .val (.long q2), .second, .val (.long q3), .second, .val (.long q4), .second, .val (.long q5), .second, .val (.int p6), .val (.int mk), .val (.int kd), .unset, .unset, .unset, .unset, .unset, .unset, .unset, .unset, .unset, .unset, .unset, .unset, .unset, .unset, .unset, .unset, .unset, .unset] [(.int (1 : Int32)), (.int ((p6.toUInt32 >>> ((7 : Int32) &&& 31).toUInt32).toInt32))]))
  refine own_st (fun t k => XS.ior X0.here hx rfl (hb hby at_21) rfl k) ?_
  show own_Go p e below K (s₁.setTop (mkF m 22 #[.val (.long q1), .second, .val (.long q2), .second, .val (.long q3), .second, .val (.long q4), .second, .val (.long q5), .second, .val (.int p6), .val (.int mk), .val (.int kd), .unset, .unset, .unset, .unset, .unset, .unset, .unset, .unset, .unset, .unset, .unset, .unset, .unset, .unset, .unset, .unset, .unset, .unset] [(.int (((p6.toUInt32 >>> ((7 : Int32) &&& 31).toUInt32).toInt32) ||| (1 : Int32)))]))
  refine own_st (fun t k => XS.i2l X0.here hx rfl (hb hby at_22) rfl k) ?_
  show own_Go p e below K (s₁.setTop (mkF m 23 #[.val (.long q1), .second, .val (.long q2), .second, .val (.long q3), .second, .val (.long q4), .second, .val (.long q5), .second, .val (.int p6), .val (.int mk), .val (.int kd), .unset, .unset, .unset, .unset, .unset, .unset, .unset, .unset, .unset, .unset, .unset, .unset, .unset, .unset, .unset, .unset, .unset, .unset] [(.long ((((p6.toUInt32 >>> ((7 : Int32) &&& 31).toUInt32).toInt32) ||| (1 : Int32)).toInt64))]))
  refine own_st (fun t k => XS.iload X0.here hx rfl (hb hby at_23) rfl k) ?_
  show own_Go p e below K (s₁.setTop (mkF m 25 #[.val (.long q1), .second, .val (.long q2), .second, .val (.long q3), .second, .val (.long q4), .second, .val (.long q5), .second, .val (.int p6), .val (.int mk), .val (.int kd), .unset, .unset, .unset, .unset, .unset, .unset, .unset, .unset, .unset, .unset, .unset, .unset, .unset, .unset, .unset, .unset, .unset, .unset] [(.int p6), (.long ((((p6.toUInt32 >>> ((7 : Int32) &&& 31).toUInt32).toInt32) ||| (1 : Int32)).toInt64))]))
  refine own_st (fun t k => XS.bipush X0.here hx rfl (hb hby at_25) k) ?_
  show own_Go p e below K (s₁.setTop (mkF m 27 #[.val (.long q1), .second, .val (.long q2), .second, .val (.long q3), .second, .val (.long q4), .second, .val (.long q5), .second, .val (.int p6), .val (.int mk), .val (.int kd), .unset, .unset, .unset, .unset, .unset, .unset, .unset, .unset, .unset, .unset, .unset, .unset, .unset, .unset, .unset, .unset, .unset, .unset] [(.int (26 : Int32)), (.int p6), (.long ((((p6.toUInt32 >>> ((7 : Int32) &&& 31).toUInt32).toInt32) ||| (1 : Int32)).toInt64))]))
  refine own_st (fun t k => XS.iushr X0.here hx rfl (hb hby at_27) rfl k) ?_
  show own_Go p e below K (s₁.setTop (mkF m 28 #[.val (.long q1), .second, .val (.long q2), .second, .val (.long q3), .second, .val (.long q4), .second, .val (.long q5), .second, .val (.int p6), .val (.int mk), .val (.int kd), .unset, .unset, .unset, .unset, .unset, .unset, .unset, .unset, .unset, .unset, .unset, .unset, .unset, .unset, .unset, .unset, .unset, .unset] [(.int ((p6.toUInt32 >>> ((26 : Int32) &&& 31).toUInt32).toInt32)), (.long ((((p6.toUInt32 >>> ((7 : Int32) &&& 31).toUInt32).toInt32) ||| (1 : Int32)).toInt64))]))
  refine own_st (fun t k => XS.bipush X0.here hx rfl (hb hby at_28) k) ?_
  show own_Go p e below K (s₁.setTop (mkF m 30 #[.val (.long q1), .second, .val (.long q2), .second, .val (.long q3), .second, .val (.long q4), .second, .val (.long q5), .second, .val (.int p6), .val (.int mk), .val (.int kd), .unset, .unset, .unset, .unset, .unset, .unset, .unset, .unset, .unset, .unset, .unset, .unset, .unset, .unset, .unset, .unset, .unset, .unset] [(.int (63 : Int32)), (.int ((p6.toUInt32 >>> ((26 : Int32) &&& 31).toUInt32).toInt32)), (.long ((((p6.toUInt32 >>> ((7 : Int32) &&& 31).toUInt32).toInt32) ||| (1 : Int32)).toInt64))]))
  refine own_st (fun t k => XS.iand X0.here hx rfl (hb hby at_30) rfl k) ?_
  show own_Go p e below K (s₁.setTop (mkF m 31 #[.val (.long q1), .second, .val (.long q2), .second, .val (.long q3), .second, .val (.long q4), .second, .val (.long q5), .second, .val (.int p6), .val (.int mk), .val (.int kd), .unset, .unset, .unset, .unset, .unset, .unset, .unset, .unset, .unset, .unset, .unset, .unset, .unset, .unset, .unset, .unset, .unset, .unset] [(.int (((p6.toUInt32 >>> ((26 : Int32) &&& 31).toUInt32).toInt32) &&& (63 : Int32))), (.long ((((p6.toUInt32 >>> ((7 : Int32) &&& 31).toUInt32).toInt32) ||| (1 : Int32)).toInt64))]))
  refine own_st (fun t k => XS.lshl X0.here hx rfl (hb hby at_31) rfl k) ?_
  show own_Go p e below K (s₁.setTop (mkF m 32 #[.val (.long q1), .second, .val (.long q2), .second, .val (.long q3), .second, .val (.long q4), .second, .val (.long q5), .second, .val (.int p6), .val (.int mk), .val (.int kd), .unset, .unset, .unset, .unset, .unset, .unset, .unset, .unset, .unset, .unset, .unset, .unset, .unset, .unset, .unset, .unset, .unset, .unset] [(.long (((((p6.toUInt32 >>> ((7 : Int32) &&& 31).toUInt32).toInt32) ||| (1 : Int32)).toInt64) <<< ((((p6.toUInt32 >>> ((26 : Int32) &&& 31).toUInt32).toInt32) &&& (63 : Int32)) &&& 0x3f).toInt64))]))
  generalize hmm : (((((p6.toUInt32 >>> ((7 : Int32) &&& 31).toUInt32).toInt32) ||| (1 : Int32)).toInt64) <<< ((((p6.toUInt32 >>> ((26 : Int32) &&& 31).toUInt32).toInt32) &&& (63 : Int32)) &&& 0x3f).toInt64) = mm
  show own_Go p e below K (s₁.setTop (mkF m 32 #[.val (.long q1), .second, .val (.long q2), .second, .val (.long q3), .second, .val (.long q4), .second, .val (.long q5), .second, .val (.int p6), .val (.int mk), .val (.int kd), .unset, .unset, .unset, .unset, .unset, .unset, .unset, .unset, .unset, .unset, .unset, .unset, .unset, .unset, .unset, .unset, .unset, .unset] [(.long mm)]))
  have hm0 : ¬ mm = 0 := hmm ▸ own_m0
  refine own_st (fun t k => XS.lstore X0.here hx rfl (hb hby at_32) rfl (l' := #[.val (.long q1), .second, .val (.long q2), .second, .val (.long q3), .second, .val (.long q4), .second, .val (.long q5), .second, .val (.int p6), .val (.int mk), .val (.int kd), .val (.long mm), .second, .unset, .unset, .unset, .unset, .unset, .unset, .unset, .unset, .unset, .unset, .unset, .unset, .unset, .unset, .unset, .unset]) rfl k) ?_
  show own_Go p e below K (s₁.setTop (mkF m 34 #[.val (.long q1), .second, .val (.long q2), .second, .val (.long q3), .second, .val (.long q4), .second, .val (.long q5), .second, .val (.int p6), .val (.int mk), .val (.int kd), .val (.long mm), .second, .unset, .unset, .unset, .unset, .unset, .unset, .unset, .unset, .unset, .unset, .unset, .unset, .unset, .unset, .unset, .unset] []))
  have J49 : ∀ (T' : State) (locs' : List Loc) (X' : Stand p l e room_1 s m #[(.long q1), (.long q2), (.long q3), (.long q4), (.long q5), (.int p6)] below meth c T' locs' 0 0) (e' : T'.heap = h0) (N' : Fr n0 locs') (va0 : Int64), (va0 = q1 ↔ mk &&& (1 : Int32) = 0) → own_Go p e below K (T'.setTop (mkF m 49 #[.val (.long q1), .second, .val (.long q2), .second, .val (.long q3), .second, .val (.long q4), .second, .val (.long q5), .second, .val (.int p6), .val (.int mk), .val (.int kd), .val (.long mm), .second, .unset, .unset, .unset, .unset, .unset, .unset, .unset, .unset, .unset, .unset, .unset, .unset, .unset, .unset, .unset, .unset] [(.long va0)])) := by
    intro T1 locs1 X1 e1 N1 va0 hb1
    refine own_st (fun t k => XS.lstore X1.here hx rfl (hb hby at_49) rfl (l' := #[.val (.long q1), .second, .val (.long q2), .second, .val (.long q3), .second, .val (.long q4), .second, .val (.long q5), .second, .val (.int p6), .val (.int mk), .val (.int kd), .val (.long mm), .second, .val (.long va0), .second, .unset, .unset, .unset, .unset, .unset, .unset, .unset, .unset, .unset, .unset, .unset, .unset, .unset, .unset]) rfl k) ?_
    show own_Go p e below K (T1.setTop (mkF m 51 #[.val (.long q1), .second, .val (.long q2), .second, .val (.long q3), .second, .val (.long q4), .second, .val (.long q5), .second, .val (.int p6), .val (.int mk), .val (.int kd), .val (.long mm), .second, .val (.long va0), .second, .unset, .unset, .unset, .unset, .unset, .unset, .unset, .unset, .unset, .unset, .unset, .unset, .unset, .unset] []))
    have J66 : ∀ (T' : State) (locs' : List Loc) (X' : Stand p l e room_1 s m #[(.long q1), (.long q2), (.long q3), (.long q4), (.long q5), (.int p6)] below meth c T' locs' 0 0) (e' : T'.heap = h0) (N' : Fr n0 locs') (vb0 : Int64), (vb0 = q2 ↔ mk &&& (2 : Int32) = 0) → own_Go p e below K (T'.setTop (mkF m 66 #[.val (.long q1), .second, .val (.long q2), .second, .val (.long q3), .second, .val (.long q4), .second, .val (.long q5), .second, .val (.int p6), .val (.int mk), .val (.int kd), .val (.long mm), .second, .val (.long va0), .second, .unset, .unset, .unset, .unset, .unset, .unset, .unset, .unset, .unset, .unset, .unset, .unset, .unset, .unset] [(.long vb0)])) := by
      intro T2 locs2 X2 e2 N2 vb0 hb2
      refine own_st (fun t k => XS.lstore X2.here hx rfl (hb hby at_66) rfl (l' := #[.val (.long q1), .second, .val (.long q2), .second, .val (.long q3), .second, .val (.long q4), .second, .val (.long q5), .second, .val (.int p6), .val (.int mk), .val (.int kd), .val (.long mm), .second, .val (.long va0), .second, .val (.long vb0), .second, .unset, .unset, .unset, .unset, .unset, .unset, .unset, .unset, .unset, .unset, .unset, .unset]) rfl k) ?_
      show own_Go p e below K (T2.setTop (mkF m 68 #[.val (.long q1), .second, .val (.long q2), .second, .val (.long q3), .second, .val (.long q4), .second, .val (.long q5), .second, .val (.int p6), .val (.int mk), .val (.int kd), .val (.long mm), .second, .val (.long va0), .second, .val (.long vb0), .second, .unset, .unset, .unset, .unset, .unset, .unset, .unset, .unset, .unset, .unset, .unset, .unset] []))
      have J85 : ∀ (T' : State) (locs' : List Loc) (X' : Stand p l e room_1 s m #[(.long q1), (.long q2), (.long q3), (.long q4), (.long q5), (.int p6)] below meth c T' locs' 0 0) (e' : T'.heap = h0) (N' : Fr n0 locs') (vc0 : Int64), (vc0 = q3 ↔ mk &&& (4 : Int32) = 0) → own_Go p e below K (T'.setTop (mkF m 85 #[.val (.long q1), .second, .val (.long q2), .second, .val (.long q3), .second, .val (.long q4), .second, .val (.long q5), .second, .val (.int p6), .val (.int mk), .val (.int kd), .val (.long mm), .second, .val (.long va0), .second, .val (.long vb0), .second, .unset, .unset, .unset, .unset, .unset, .unset, .unset, .unset, .unset, .unset, .unset, .unset] [(.long vc0)])) := by
        intro T3 locs3 X3 e3 N3 vc0 hb4
        refine own_st (fun t k => XS.lstore X3.here hx rfl (hb hby at_85) rfl (l' := #[.val (.long q1), .second, .val (.long q2), .second, .val (.long q3), .second, .val (.long q4), .second, .val (.long q5), .second, .val (.int p6), .val (.int mk), .val (.int kd), .val (.long mm), .second, .val (.long va0), .second, .val (.long vb0), .second, .val (.long vc0), .second, .unset, .unset, .unset, .unset, .unset, .unset, .unset, .unset, .unset, .unset]) rfl k) ?_
        show own_Go p e below K (T3.setTop (mkF m 87 #[.val (.long q1), .second, .val (.long q2), .second, .val (.long q3), .second, .val (.long q4), .second, .val (.long q5), .second, .val (.int p6), .val (.int mk), .val (.int kd), .val (.long mm), .second, .val (.long va0), .second, .val (.long vb0), .second, .val (.long vc0), .second, .unset, .unset, .unset, .unset, .unset, .unset, .unset, .unset, .unset, .unset] []))
        have J105 : ∀ (T' : State) (locs' : List Loc) (X' : Stand p l e room_1 s m #[(.long q1), (.long q2), (.long q3), (.long q4), (.long q5), (.int p6)] below meth c T' locs' 0 0) (e' : T'.heap = h0) (N' : Fr n0 locs') (vd0 : Int64), (vd0 = q4 ↔ mk &&& (8 : Int32) = 0) → own_Go p e below K (T'.setTop (mkF m 105 #[.val (.long q1), .second, .val (.long q2), .second, .val (.long q3), .second, .val (.long q4), .second, .val (.long q5), .second, .val (.int p6), .val (.int mk), .val (.int kd), .val (.long mm), .second, .val (.long va0), .second, .val (.long vb0), .second, .val (.long vc0), .second, .unset, .unset, .unset, .unset, .unset, .unset, .unset, .unset, .unset, .unset] [(.long vd0)])) := by
          intro T4 locs4 X4 e4 N4 vd0 hb8
          refine own_st (fun t k => XS.lstore X4.here hx rfl (hb hby at_105) rfl (l' := #[.val (.long q1), .second, .val (.long q2), .second, .val (.long q3), .second, .val (.long q4), .second, .val (.long q5), .second, .val (.int p6), .val (.int mk), .val (.int kd), .val (.long mm), .second, .val (.long va0), .second, .val (.long vb0), .second, .val (.long vc0), .second, .val (.long vd0), .second, .unset, .unset, .unset, .unset, .unset, .unset, .unset, .unset]) rfl k) ?_
          show own_Go p e below K (T4.setTop (mkF m 107 #[.val (.long q1), .second, .val (.long q2), .second, .val (.long q3), .second, .val (.long q4), .second, .val (.long q5), .second, .val (.int p6), .val (.int mk), .val (.int kd), .val (.long mm), .second, .val (.long va0), .second, .val (.long vb0), .second, .val (.long vc0), .second, .val (.long vd0), .second, .unset, .unset, .unset, .unset, .unset, .unset, .unset, .unset] []))
          have J125 : ∀ (T' : State) (locs' : List Loc) (X' : Stand p l e room_1 s m #[(.long q1), (.long q2), (.long q3), (.long q4), (.long q5), (.int p6)] below meth c T' locs' 0 0) (e' : T'.heap = h0) (N' : Fr n0 locs') (ve0 : Int64), (ve0 = q5 ↔ mk &&& (16 : Int32) = 0) → own_Go p e below K (T'.setTop (mkF m 125 #[.val (.long q1), .second, .val (.long q2), .second, .val (.long q3), .second, .val (.long q4), .second, .val (.long q5), .second, .val (.int p6), .val (.int mk), .val (.int kd), .val (.long mm), .second, .val (.long va0), .second, .val (.long vb0), .second, .val (.long vc0), .second, .val (.long vd0), .second, .unset, .unset, .unset, .unset, .unset, .unset, .unset, .unset] [(.long ve0)])) := by
            intro T5 locs5 X5 e5 N5 ve0 hb16
            refine own_st (fun t k => XS.lstore X5.here hx rfl (hb hby at_125) rfl (l' := #[.val (.long q1), .second, .val (.long q2), .second, .val (.long q3), .second, .val (.long q4), .second, .val (.long q5), .second, .val (.int p6), .val (.int mk), .val (.int kd), .val (.long mm), .second, .val (.long va0), .second, .val (.long vb0), .second, .val (.long vc0), .second, .val (.long vd0), .second, .val (.long ve0), .second, .unset, .unset, .unset, .unset, .unset, .unset]) rfl k) ?_
            show own_Go p e below K (T5.setTop (mkF m 127 #[.val (.long q1), .second, .val (.long q2), .second, .val (.long q3), .second, .val (.long q4), .second, .val (.long q5), .second, .val (.int p6), .val (.int mk), .val (.int kd), .val (.long mm), .second, .val (.long va0), .second, .val (.long vb0), .second, .val (.long vc0), .second, .val (.long vd0), .second, .val (.long ve0), .second, .unset, .unset, .unset, .unset, .unset, .unset] []))
            obtain ⟨T6, h6, X6, e6, E6, A6, D6, -, st6⟩ := newO X5 hx hZ hown (hw _ (List.mem_of_getElem? (i := 0) rfl)) (hw _ (List.mem_of_getElem? (i := 1) rfl)) (hw _ (List.mem_of_getElem? (i := 2) rfl)) e5 (g := (mkF m 127 #[.val (.long q1), .second, .val (.long q2), .second, .val (.long q3), .second, .val (.long q4), .second, .val (.long q5), .second, .val (.int p6), .val (.int mk), .val (.int kd), .val (.long mm), .second, .val (.long va0), .second, .val (.long vb0), .second, .val (.long vc0), .second, .val (.long vd0), .second, .val (.long ve0), .second, .unset, .unset, .unset, .unset, .unset, .unset] [])) rfl (hb hby at_127) (by decide) (by decide)
            obtain ⟨b6, g6⟩ : ∃ z, z = h0.size := ⟨_, rfl⟩
            rw [← g6] at A6 D6 st6
            have g_b6 : n0 ≤ b6 := Nat.le_trans Z0 (Nat.le_of_eq g6.symm)
            have f7 : Old Z n0 h6 := P0.ext E6
            have f8 : Fld Z h6 b6 "com/example/expire_then_sweep/expirethensweep/model/ContainerStats" "storedItems" "J" (.long (0 : Int64)) := D6 (Or.inr (hw _ (List.mem_of_getElem? (i := 10) rfl))) (ty := .long) (by decide)
            have f9 : Fld Z h6 b6 "com/example/expire_then_sweep/expirethensweep/model/ContainerStats" "liveItems" "J" (.long (0 : Int64)) := D6 (Or.inr (hw _ (List.mem_of_getElem? (i := 12) rfl))) (ty := .long) (by decide)
            have f10 : Fld Z h6 b6 "com/example/expire_then_sweep/expirethensweep/model/ContainerStats" "sweptItems" "J" (.long (0 : Int64)) := D6 (Or.inr (hw _ (List.mem_of_getElem? (i := 14) rfl))) (ty := .long) (by decide)
            have f11 : Fld Z h6 b6 "com/example/expire_then_sweep/expirethensweep/model/ContainerStats" "userUnits" "J" (.long (0 : Int64)) := D6 (Or.inr (hw _ (List.mem_of_getElem? (i := 16) rfl))) (ty := .long) (by decide)
            have f12 : Fld Z h6 b6 "com/example/expire_then_sweep/expirethensweep/model/ContainerStats" "sweepUnits" "J" (.long (0 : Int64)) := D6 (Or.inr (hw _ (List.mem_of_getElem? (i := 18) rfl))) (ty := .long) (by decide)
            have Z6 : n0 ≤ h6.size := Nat.le_trans Z0 E6.1
            refine own_st st6 ?_
            show own_Go p e below K (T6.setTop (mkF m 130 #[.val (.long q1), .second, .val (.long q2), .second, .val (.long q3), .second, .val (.long q4), .second, .val (.long q5), .second, .val (.int p6), .val (.int mk), .val (.int kd), .val (.long mm), .second, .val (.long va0), .second, .val (.long vb0), .second, .val (.long vc0), .second, .val (.long vd0), .second, .val (.long ve0), .second, .unset, .unset, .unset, .unset, .unset, .unset] [(.ref b6)]))
            refine own_st (fun t k => XS.dup X6.here hx rfl (hb hby at_130) rfl rfl k) ?_
            show own_Go p e below K (T6.setTop (mkF m 131 #[.val (.long q1), .second, .val (.long q2), .second, .val (.long q3), .second, .val (.long q4), .second, .val (.long q5), .second, .val (.int p6), .val (.int mk), .val (.int kd), .val (.long mm), .second, .val (.long va0), .second, .val (.long vb0), .second, .val (.long vc0), .second, .val (.long vd0), .second, .val (.long ve0), .second, .unset, .unset, .unset, .unset, .unset, .unset] [(.ref b6), (.ref b6)]))
            refine own_st (fun t k => XS.lloadN X6.here hx rfl (hb hby at_131) rfl k) ?_
            show own_Go p e below K (T6.setTop (mkF m 132 #[.val (.long q1), .second, .val (.long q2), .second, .val (.long q3), .second, .val (.long q4), .second, .val (.long q5), .second, .val (.int p6), .val (.int mk), .val (.int kd), .val (.long mm), .second, .val (.long va0), .second, .val (.long vb0), .second, .val (.long vc0), .second, .val (.long vd0), .second, .val (.long ve0), .second, .unset, .unset, .unset, .unset, .unset, .unset] [(.long q1), (.ref b6), (.ref b6)]))
            refine own_st (fun t k => XS.lloadN X6.here hx rfl (hb hby at_132) rfl k) ?_
            show own_Go p e below K (T6.setTop (mkF m 133 #[.val (.long q1), .second, .val (.long q2), .second, .val (.long q3), .second, .val (.long q4), .second, .val (.long q5), .second, .val (.int p6), .val (.int mk), .val (.int kd), .val (.long mm), .second, .val (.long va0), .second, .val (.long vb0), .second, .val (.long vc0), .second, .val (.long vd0), .second, .val (.long ve0), .second, .unset, .unset, .unset, .unset, .unset, .unset] [(.long q2), (.long q1), (.ref b6), (.ref b6)]))
            refine own_st (fun t k => XS.lload X6.here hx rfl (hb hby at_133) rfl k) ?_
            show own_Go p e below K (T6.setTop (mkF m 135 #[.val (.long q1), .second, .val (.long q2), .second, .val (.long q3), .second, .val (.long q4), .second, .val (.long q5), .second, .val (.int p6), .val (.int mk), .val (.int kd), .val (.long mm), .second, .val (.long va0), .second, .val (.long vb0), .second, .val (.long vc0), .second, .val (.long vd0), .second, .val (.long ve0), .second, .unset, .unset, .unset, .unset, .unset, .unset] [(.long q3), (.long q2), (.long q1), (.ref b6), (.ref b6)]))
            refine own_st (fun t k => XS.lload X6.here hx rfl (hb hby at_135) rfl k) ?_
            show own_Go p e below K (T6.setTop (mkF m 137 #[.val (.long q1), .second, .val (.long q2), .second, .val (.long q3), .second, .val (.long q4), .second, .val (.long q5), .second, .val (.int p6), .val (.int mk), .val (.int kd), .val (.long mm), .second, .val (.long va0), .second, .val (.long vb0), .second, .val (.long vc0), .second, .val (.long vd0), .second, .val (.long ve0), .second, .unset, .unset, .unset, .unset, .unset, .unset] [(.long q4), (.long q3), (.long q2), (.long q1), (.ref b6), (.ref b6)]))
            refine own_st (fun t k => XS.lload X6.here hx rfl (hb hby at_137) rfl k) ?_
            show own_Go p e below K (T6.setTop (mkF m 139 #[.val (.long q1), .second, .val (.long q2), .second, .val (.long q3), .second, .val (.long q4), .second, .val (.long q5), .second, .val (.int p6), .val (.int mk), .val (.int kd), .val (.long mm), .second, .val (.long va0), .second, .val (.long vb0), .second, .val (.long vc0), .second, .val (.long vd0), .second, .val (.long ve0), .second, .unset, .unset, .unset, .unset, .unset, .unset] [(.long q5), (.long q4), (.long q3), (.long q2), (.long q1), (.ref b6), (.ref b6)]))
            obtain ⟨_, _, ⟨T13, L13, k13, n13⟩, -, X13, ⟨Lc13, hQ13, l13, y13, z13⟩, st13⟩ := X6.specialBack hx (y := (⟨"com/example/expire_then_sweep/expirethensweep/model/ContainerStats", "<init>", "(JJJJJ)V"⟩ : MethodName)) rfl hown (mvT hZ (hw _ (List.mem_of_getElem? (i := 3) rfl))) (mvT hZ (hw _ (List.mem_of_getElem? (i := 4) rfl))) (mvT hZ (hw _ (List.mem_of_getElem? (i := 5) rfl))) (by decide) (backOf (W := 1) (rm1 l Z a0 hw [] b6 q1 q2 q3 q4 q5 h6 n0 Z6 g_b6 A6 f8 f9 f10 f11 f12) hZ (hw _ (List.mem_of_getElem? (i := 5) rfl)) (hw _ (List.mem_of_getElem? (i := 2) rfl)) (by decide) (by decide)) (g := (mkF m 139 #[.val (.long q1), .second, .val (.long q2), .second, .val (.long q3), .second, .val (.long q4), .second, .val (.long q5), .second, .val (.int p6), .val (.int mk), .val (.int kd), .val (.long mm), .second, .val (.long va0), .second, .val (.long vb0), .second, .val (.long vc0), .second, .val (.long vd0), .second, .val (.long ve0), .second, .unset, .unset, .unset, .unset, .unset, .unset] [(.long q5), (.long q4), (.long q3), (.long q2), (.long q1), (.ref b6), (.ref b6)])) rfl (by rw [hml]; rfl) (Steps.refl _) (a := b6) (argsL := [(.long q1), (.long q2), (.long q3), (.long q4), (.long q5)]) (rest := [(.ref b6)]) (lenOf pd_0_0 rfl) rfl (by show 2 * 0 + _ ≤ _; exact Nat.le_of_eq rfl) (hb hby at_139) (fun _ _ => ⟨rfl, e6, (by decide : 1 + 0 ≤ _), (by decide : 5 + 0 ≤ _)⟩)
            dsimp only [Pt.U, Pt.locs, Pt.cells, Pt.slots] at X13 l13 y13 z13 st13 hQ13
            subst l13 y13 z13
            obtain ⟨rfl, N13q, Kq13, p13_0, p13_1, p13_2, p13_3, p13_4, p13_5⟩ := hQ13
            have N13 := Fr.app N5 N13q
            have f14 : Old Z n0 T13.heap := f7.keep Kq13 (allS (P := fun x => n0 ≤ x) g_b6 all0)
            have Z13 : n0 ≤ T13.heap.size := Nat.le_trans Z6 Kq13.1
            refine own_tr st13 ?_
            show own_Go p e below K (T13.setTop (mkF m 142 #[.val (.long q1), .second, .val (.long q2), .second, .val (.long q3), .second, .val (.long q4), .second, .val (.long q5), .second, .val (.int p6), .val (.int mk), .val (.int kd), .val (.long mm), .second, .val (.long va0), .second, .val (.long vb0), .second, .val (.long vc0), .second, .val (.long vd0), .second, .val (.long ve0), .second, .unset, .unset, .unset, .unset, .unset, .unset] [(.ref b6)]))
            refine own_st (fun t k => XS.astore X13.here hx rfl (hb hby at_142) rfl rfl (l' := #[.val (.long q1), .second, .val (.long q2), .second, .val (.long q3), .second, .val (.long q4), .second, .val (.long q5), .second, .val (.int p6), .val (.int mk), .val (.int kd), .val (.long mm), .second, .val (.long va0), .second, .val (.long vb0), .second, .val (.long vc0), .second, .val (.long vd0), .second, .val (.long ve0), .second, .val (.ref b6), .unset, .unset, .unset, .unset, .unset]) rfl k) ?_
            show own_Go p e below K (T13.setTop (mkF m 144 #[.val (.long q1), .second, .val (.long q2), .second, .val (.long q3), .second, .val (.long q4), .second, .val (.long q5), .second, .val (.int p6), .val (.int mk), .val (.int kd), .val (.long mm), .second, .val (.long va0), .second, .val (.long vb0), .second, .val (.long vc0), .second, .val (.long vd0), .second, .val (.long ve0), .second, .val (.ref b6), .unset, .unset, .unset, .unset, .unset] []))
            obtain ⟨T15, h15, X15, e15, E15, A15, D15, -, st15⟩ := newO X13 hx hZ hown (hw _ (List.mem_of_getElem? (i := 0) rfl)) (hw _ (List.mem_of_getElem? (i := 1) rfl)) (hw _ (List.mem_of_getElem? (i := 2) rfl)) rfl (g := (mkF m 144 #[.val (.long q1), .second, .val (.long q2), .second, .val (.long q3), .second, .val (.long q4), .second, .val (.long q5), .second, .val (.int p6), .val (.int mk), .val (.int kd), .val (.long mm), .second, .val (.long va0), .second, .val (.long vb0), .second, .val (.long vc0), .second, .val (.long vd0), .second, .val (.long ve0), .second, .val (.ref b6), .unset, .unset, .unset, .unset, .unset] [])) rfl (hb hby at_144) (by decide) (by decide)
            obtain ⟨b15, g15⟩ : ∃ z, z = T13.heap.size := ⟨_, rfl⟩
            rw [← g15] at A15 D15 st15
            have ne_b6_b15 : b6 ≠ b15 := Nat.ne_of_lt (Nat.lt_of_lt_of_le p13_0.lt (Nat.le_of_eq g15.symm))
            have g_b15 : n0 ≤ b15 := Nat.le_trans Z13 (Nat.le_of_eq g15.symm)
            have f16 : Old Z n0 h15 := f14.ext E15
            have f17 : Exa Z h15 b6 "com/example/expire_then_sweep/expirethensweep/model/ContainerStats" := p13_0.ext E15
            have f18 : Fld Z h15 b6 "com/example/expire_then_sweep/expirethensweep/model/ContainerStats" "storedItems" "J" (.long q1) := p13_1.ext E15
            have f19 : Fld Z h15 b6 "com/example/expire_then_sweep/expirethensweep/model/ContainerStats" "liveItems" "J" (.long q2) := p13_2.ext E15
            have f20 : Fld Z h15 b6 "com/example/expire_then_sweep/expirethensweep/model/ContainerStats" "sweptItems" "J" (.long q3) := p13_3.ext E15
            have f21 : Fld Z h15 b6 "com/example/expire_then_sweep/expirethensweep/model/ContainerStats" "userUnits" "J" (.long q4) := p13_4.ext E15
            have f22 : Fld Z h15 b6 "com/example/expire_then_sweep/expirethensweep/model/ContainerStats" "sweepUnits" "J" (.long q5) := p13_5.ext E15
            have f23 : Fld Z h15 b15 "com/example/expire_then_sweep/expirethensweep/model/ContainerStats" "storedItems" "J" (.long (0 : Int64)) := D15 (Or.inr (hw _ (List.mem_of_getElem? (i := 10) rfl))) (ty := .long) (by decide)
            have f24 : Fld Z h15 b15 "com/example/expire_then_sweep/expirethensweep/model/ContainerStats" "liveItems" "J" (.long (0 : Int64)) := D15 (Or.inr (hw _ (List.mem_of_getElem? (i := 12) rfl))) (ty := .long) (by decide)
            have f25 : Fld Z h15 b15 "com/example/expire_then_sweep/expirethensweep/model/ContainerStats" "sweptItems" "J" (.long (0 : Int64)) := D15 (Or.inr (hw _ (List.mem_of_getElem? (i := 14) rfl))) (ty := .long) (by decide)
            have f26 : Fld Z h15 b15 "com/example/expire_then_sweep/expirethensweep/model/ContainerStats" "userUnits" "J" (.long (0 : Int64)) := D15 (Or.inr (hw _ (List.mem_of_getElem? (i := 16) rfl))) (ty := .long) (by decide)
            have f27 : Fld Z h15 b15 "com/example/expire_then_sweep/expirethensweep/model/ContainerStats" "sweepUnits" "J" (.long (0 : Int64)) := D15 (Or.inr (hw _ (List.mem_of_getElem? (i := 18) rfl))) (ty := .long) (by decide)
            have Z15 : n0 ≤ h15.size := Nat.le_trans Z13 E15.1
            refine own_st st15 ?_
            show own_Go p e below K (T15.setTop (mkF m 147 #[.val (.long q1), .second, .val (.long q2), .second, .val (.long q3), .second, .val (.long q4), .second, .val (.long q5), .second, .val (.int p6), .val (.int mk), .val (.int kd), .val (.long mm), .second, .val (.long va0), .second, .val (.long vb0), .second, .val (.long vc0), .second, .val (.long vd0), .second, .val (.long ve0), .second, .val (.ref b6), .unset, .unset, .unset, .unset, .unset] [(.ref b15)]))
            refine own_st (fun t k => XS.dup X15.here hx rfl (hb hby at_147) rfl rfl k) ?_
            show own_Go p e below K (T15.setTop (mkF m 148 #[.val (.long q1), .second, .val (.long q2), .second, .val (.long q3), .second, .val (.long q4), .second, .val (.long q5), .second, .val (.int p6), .val (.int mk), .val (.int kd), .val (.long mm), .second, .val (.long va0), .second, .val (.long vb0), .second, .val (.long vc0), .second, .val (.long vd0), .second, .val (.long ve0), .second, .val (.ref b6), .unset, .unset, .unset, .unset, .unset] [(.ref b15), (.ref b15)]))
            refine own_st (fun t k => XS.lload X15.here hx rfl (hb hby at_148) rfl k) ?_
            show own_Go p e below K (T15.setTop (mkF m 150 #[.val (.long q1), .second, .val (.long q2), .second, .val (.long q3), .second, .val (.long q4), .second, .val (.long q5), .second, .val (.int p6), .val (.int mk), .val (.int kd), .val (.long mm), .second, .val (.long va0), .second, .val (.long vb0), .second, .val (.long vc0), .second, .val (.long vd0), .second, .val (.long ve0), .second, .val (.ref b6), .unset, .unset, .unset, .unset, .unset] [(.long va0), (.ref b15), (.ref b15)]))
            refine own_st (fun t k => XS.lload X15.here hx rfl (hb hby at_150) rfl k) ?_
            show own_Go p e below K (T15.setTop (mkF m 152 #[.val (.long q1), .second, .val (.long q2), .second, .val (.long q3), .second, .val (.long q4), .second, .val (.long q5), .second, .val (.int p6), .val (.int mk), .val (.int kd), .val (.long mm), .second, .val (.long va0), .second, .val (.long vb0), .second, .val (.long vc0), .second, .val (.long vd0), .second, .val (.long ve0), .second, .val (.ref b6), .unset, .unset, .unset, .unset, .unset] [(.long vb0), (.long va0), (.ref b15), (.ref b15)]))
            refine own_st (fun t k => XS.lload X15.here hx rfl (hb hby at_152) rfl k) ?_
            show own_Go p e below K (T15.setTop (mkF m 154 #[.val (.long q1), .second, .val (.long q2), .second, .val (.long q3), .second, .val (.long q4), .second, .val (.long q5), .second, .val (.int p6), .val (.int mk), .val (.int kd), .val (.long mm), .second, .val (.long va0), .second, .val (.long vb0), .second, .val (.long vc0), .second, .val (.long vd0), .second, .val (.long ve0), .second, .val (.ref b6), .unset, .unset, .unset, .unset, .unset] [(.long vc0), (.long vb0), (.long va0), (.ref b15), (.ref b15)]))
            refine own_st (fun t k => XS.lload X15.here hx rfl (hb hby at_154) rfl k) ?_
            show own_Go p e below K (T15.setTop (mkF m 156 #[.val (.long q1), .second, .val (.long q2), .second, .val (.long q3), .second, .val (.long q4), .second, .val (.long q5), .second, .val (.int p6), .val (.int mk), .val (.int kd), .val (.long mm), .second, .val (.long va0), .second, .val (.long vb0), .second, .val (.long vc0), .second, .val (.long vd0), .second, .val (.long ve0), .second, .val (.ref b6), .unset, .unset, .unset, .unset, .unset] [(.long vd0), (.long vc0), (.long vb0), (.long va0), (.ref b15), (.ref b15)]))
            refine own_st (fun t k => XS.lload X15.here hx rfl (hb hby at_156) rfl k) ?_
            show own_Go p e below K (T15.setTop (mkF m 158 #[.val (.long q1), .second, .val (.long q2), .second, .val (.long q3), .second, .val (.long q4), .second, .val (.long q5), .second, .val (.int p6), .val (.int mk), .val (.int kd), .val (.long mm), .second, .val (.long va0), .second, .val (.long vb0), .second, .val (.long vc0), .second, .val (.long vd0), .second, .val (.long ve0), .second, .val (.ref b6), .unset, .unset, .unset, .unset, .unset] [(.long ve0), (.long vd0), (.long vc0), (.long vb0), (.long va0), (.ref b15), (.ref b15)]))
            obtain ⟨_, _, ⟨T28, L28, k28, n28⟩, -, X28, ⟨Lc28, hQ28, l28, y28, z28⟩, st28⟩ := X15.specialBack hx (y := (⟨"com/example/expire_then_sweep/expirethensweep/model/ContainerStats", "<init>", "(JJJJJ)V"⟩ : MethodName)) rfl hown (mvT hZ (hw _ (List.mem_of_getElem? (i := 3) rfl))) (mvT hZ (hw _ (List.mem_of_getElem? (i := 4) rfl))) (mvT hZ (hw _ (List.mem_of_getElem? (i := 5) rfl))) (by decide) (backOf (W := 1) (rm1 l Z a0 hw [] b15 va0 vb0 vc0 vd0 ve0 h15 n0 Z15 g_b15 A15 f23 f24 f25 f26 f27) hZ (hw _ (List.mem_of_getElem? (i := 5) rfl)) (hw _ (List.mem_of_getElem? (i := 2) rfl)) (by decide) (by decide)) (g := (mkF m 158 #[.val (.long q1), .second, .val (.long q2), .second, .val (.long q3), .second, .val (.long q4), .second, .val (.long q5), .second, .val (.int p6), .val (.int mk), .val (.int kd), .val (.long mm), .second, .val (.long va0), .second, .val (.long vb0), .second, .val (.long vc0), .second, .val (.long vd0), .second, .val (.long ve0), .second, .val (.ref b6), .unset, .unset, .unset, .unset, .unset] [(.long ve0), (.long vd0), (.long vc0), (.long vb0), (.long va0), (.ref b15), (.ref b15)])) rfl (by rw [hml]; rfl) (Steps.refl _) (a := b15) (argsL := [(.long va0), (.long vb0), (.long vc0), (.long vd0), (.long ve0)]) (rest := [(.ref b15)]) (lenOf pd_0_0 rfl) rfl (by show 2 * 0 + _ ≤ _; exact Nat.le_of_eq rfl) (hb hby at_158) (fun _ _ => ⟨rfl, e15, (by decide : 2 + 0 ≤ _), (by decide : 10 + 0 ≤ _)⟩)
            dsimp only [Pt.U, Pt.locs, Pt.cells, Pt.slots] at X28 l28 y28 z28 st28 hQ28
            subst l28 y28 z28
            obtain ⟨rfl, N28q, Kq28, p28_0, p28_1, p28_2, p28_3, p28_4, p28_5⟩ := hQ28
            have N28 := Fr.app N13 N28q
            have f29 : Old Z n0 T28.heap := f16.keep Kq28 (allS (P := fun x => n0 ≤ x) g_b15 all0)
            have f30 : Exa Z T28.heap b6 "com/example/expire_then_sweep/expirethensweep/model/ContainerStats" := f17.keep Kq28
            have f31 : Fld Z T28.heap b6 "com/example/expire_then_sweep/expirethensweep/model/ContainerStats" "storedItems" "J" (.long q1) := f18.keep Kq28 (ninS ne_b6_b15 nin0)
            have f32 : Fld Z T28.heap b6 "com/example/expire_then_sweep/expirethensweep/model/ContainerStats" "liveItems" "J" (.long q2) := f19.keep Kq28 (ninS ne_b6_b15 nin0)
            have f33 : Fld Z T28.heap b6 "com/example/expire_then_sweep/expirethensweep/model/ContainerStats" "sweptItems" "J" (.long q3) := f20.keep Kq28 (ninS ne_b6_b15 nin0)
            have f34 : Fld Z T28.heap b6 "com/example/expire_then_sweep/expirethensweep/model/ContainerStats" "userUnits" "J" (.long q4) := f21.keep Kq28 (ninS ne_b6_b15 nin0)
            have f35 : Fld Z T28.heap b6 "com/example/expire_then_sweep/expirethensweep/model/ContainerStats" "sweepUnits" "J" (.long q5) := f22.keep Kq28 (ninS ne_b6_b15 nin0)
            have Z28 : n0 ≤ T28.heap.size := Nat.le_trans Z15 Kq28.1
            refine own_tr st28 ?_
            show own_Go p e below K (T28.setTop (mkF m 161 #[.val (.long q1), .second, .val (.long q2), .second, .val (.long q3), .second, .val (.long q4), .second, .val (.long q5), .second, .val (.int p6), .val (.int mk), .val (.int kd), .val (.long mm), .second, .val (.long va0), .second, .val (.long vb0), .second, .val (.long vc0), .second, .val (.long vd0), .second, .val (.long ve0), .second, .val (.ref b6), .unset, .unset, .unset, .unset, .unset] [(.ref b15)]))
            refine own_st (fun t k => XS.astore X28.here hx rfl (hb hby at_161) rfl rfl (l' := #[.val (.long q1), .second, .val (.long q2), .second, .val (.long q3), .second, .val (.long q4), .second, .val (.long q5), .second, .val (.int p6), .val (.int mk), .val (.int kd), .val (.long mm), .second, .val (.long va0), .second, .val (.long vb0), .second, .val (.long vc0), .second, .val (.long vd0), .second, .val (.long ve0), .second, .val (.ref b6), .val (.ref b15), .unset, .unset, .unset, .unset]) rfl k) ?_
            show own_Go p e below K (T28.setTop (mkF m 163 #[.val (.long q1), .second, .val (.long q2), .second, .val (.long q3), .second, .val (.long q4), .second, .val (.long q5), .second, .val (.int p6), .val (.int mk), .val (.int kd), .val (.long mm), .second, .val (.long va0), .second, .val (.long vb0), .second, .val (.long vc0), .second, .val (.long vd0), .second, .val (.long ve0), .second, .val (.ref b6), .val (.ref b15), .unset, .unset, .unset, .unset] []))
            refine own_st (fun t k => XS.iload X28.here hx rfl (hb hby at_163) rfl k) ?_
            show own_Go p e below K (T28.setTop (mkF m 165 #[.val (.long q1), .second, .val (.long q2), .second, .val (.long q3), .second, .val (.long q4), .second, .val (.long q5), .second, .val (.int p6), .val (.int mk), .val (.int kd), .val (.long mm), .second, .val (.long va0), .second, .val (.long vb0), .second, .val (.long vc0), .second, .val (.long vd0), .second, .val (.long ve0), .second, .val (.ref b6), .val (.ref b15), .unset, .unset, .unset, .unset] [(.int kd)]))
            by_cases hc165 : kd = (0 : Int32)
            · refine own_st (fun t k => XS.ifNo X28.here hx rfl (hb hby at_165) rfl ((if0 _ _).trans (teq hc165).2) k) ?_
              show own_Go p e below K (T28.setTop (mkF m 168 #[.val (.long q1), .second, .val (.long q2), .second, .val (.long q3), .second, .val (.long q4), .second, .val (.long q5), .second, .val (.int p6), .val (.int mk), .val (.int kd), .val (.long mm), .second, .val (.long va0), .second, .val (.long vb0), .second, .val (.long vc0), .second, .val (.long vd0), .second, .val (.long ve0), .second, .val (.ref b6), .val (.ref b15), .unset, .unset, .unset, .unset] []))
              refine own_st (fun t k => XS.aload X28.here hx rfl (hb hby at_168) rfl rfl k) ?_
              show own_Go p e below K (T28.setTop (mkF m 170 #[.val (.long q1), .second, .val (.long q2), .second, .val (.long q3), .second, .val (.long q4), .second, .val (.long q5), .second, .val (.int p6), .val (.int mk), .val (.int kd), .val (.long mm), .second, .val (.long va0), .second, .val (.long vb0), .second, .val (.long vc0), .second, .val (.long vd0), .second, .val (.long ve0), .second, .val (.ref b6), .val (.ref b15), .unset, .unset, .unset, .unset] [(.ref b15)]))
              refine own_st (fun t k => XS.astore X28.here hx rfl (hb hby at_170) rfl rfl (l' := #[.val (.long q1), .second, .val (.long q2), .second, .val (.long q3), .second, .val (.long q4), .second, .val (.long q5), .second, .val (.int p6), .val (.int mk), .val (.int kd), .val (.long mm), .second, .val (.long va0), .second, .val (.long vb0), .second, .val (.long vc0), .second, .val (.long vd0), .second, .val (.long ve0), .second, .val (.ref b6), .val (.ref b15), .val (.ref b15), .unset, .unset, .unset]) rfl k) ?_
              show own_Go p e below K (T28.setTop (mkF m 172 #[.val (.long q1), .second, .val (.long q2), .second, .val (.long q3), .second, .val (.long q4), .second, .val (.long q5), .second, .val (.int p6), .val (.int mk), .val (.int kd), .val (.long mm), .second, .val (.long va0), .second, .val (.long vb0), .second, .val (.long vc0), .second, .val (.long vd0), .second, .val (.long ve0), .second, .val (.ref b6), .val (.ref b15), .val (.ref b15), .unset, .unset, .unset] []))
              refine own_st (fun t k => XS.iload X28.here hx rfl (hb hby at_172) rfl k) ?_
              show own_Go p e below K (T28.setTop (mkF m 174 #[.val (.long q1), .second, .val (.long q2), .second, .val (.long q3), .second, .val (.long q4), .second, .val (.long q5), .second, .val (.int p6), .val (.int mk), .val (.int kd), .val (.long mm), .second, .val (.long va0), .second, .val (.long vb0), .second, .val (.long vc0), .second, .val (.long vd0), .second, .val (.long ve0), .second, .val (.ref b6), .val (.ref b15), .val (.ref b15), .unset, .unset, .unset] [(.int mk)]))
              by_cases hc174 : mk = (0 : Int32)
              · refine own_st (fun t k => XS.ifNo X28.here hx rfl (hb hby at_174) rfl ((if0 _ _).trans (teq hc174).2) k) ?_
                show own_Go p e below K (T28.setTop (mkF m 177 #[.val (.long q1), .second, .val (.long q2), .second, .val (.long q3), .second, .val (.long q4), .second, .val (.long q5), .second, .val (.int p6), .val (.int mk), .val (.int kd), .val (.long mm), .second, .val (.long va0), .second, .val (.long vb0), .second, .val (.long vc0), .second, .val (.long vd0), .second, .val (.long ve0), .second, .val (.ref b6), .val (.ref b15), .val (.ref b15), .unset, .unset, .unset] []))
                refine own_st (fun t k => XS.iconst X28.here hx rfl (hb hby at_177) k) ?_
                show own_Go p e below K (T28.setTop (mkF m 178 #[.val (.long q1), .second, .val (.long q2), .second, .val (.long q3), .second, .val (.long q4), .second, .val (.long q5), .second, .val (.int p6), .val (.int mk), .val (.int kd), .val (.long mm), .second, .val (.long va0), .second, .val (.long vb0), .second, .val (.long vc0), .second, .val (.long vd0), .second, .val (.long ve0), .second, .val (.ref b6), .val (.ref b15), .val (.ref b15), .unset, .unset, .unset] [(.int (1 : Int32))]))
                refine own_st (fun t k => XS.goto X28.here hx rfl (pc0 := 178) (pc' := 182) rfl (hb hby at_178) (by decide) (by decide) k) ?_
                show own_Go p e below K (T28.setTop (mkF m 182 #[.val (.long q1), .second, .val (.long q2), .second, .val (.long q3), .second, .val (.long q4), .second, .val (.long q5), .second, .val (.int p6), .val (.int mk), .val (.int kd), .val (.long mm), .second, .val (.long va0), .second, .val (.long vb0), .second, .val (.long vc0), .second, .val (.long vd0), .second, .val (.long ve0), .second, .val (.ref b6), .val (.ref b15), .val (.ref b15), .unset, .unset, .unset] [(.int (1 : Int32))]))
                refine own_st (fun t k => XS.istore X28.here hx rfl (hb hby at_182) rfl (l' := #[.val (.long q1), .second, .val (.long q2), .second, .val (.long q3), .second, .val (.long q4), .second, .val (.long q5), .second, .val (.int p6), .val (.int mk), .val (.int kd), .val (.long mm), .second, .val (.long va0), .second, .val (.long vb0), .second, .val (.long vc0), .second, .val (.long vd0), .second, .val (.long ve0), .second, .val (.ref b6), .val (.ref b15), .val (.ref b15), .val (.int (1 : Int32)), .unset, .unset]) rfl k) ?_
                show own_Go p e below K (T28.setTop (mkF m 184 #[.val (.long q1), .second, .val (.long q2), .second, .val (.long q3), .second, .val (.long q4), .second, .val (.long q5), .second, .val (.int p6), .val (.int mk), .val (.int kd), .val (.long mm), .second, .val (.long va0), .second, .val (.long vb0), .second, .val (.long vc0), .second, .val (.long vd0), .second, .val (.long ve0), .second, .val (.ref b6), .val (.ref b15), .val (.ref b15), .val (.int (1 : Int32)), .unset, .unset] []))
                refine own_st (fun t k => XS.goto X28.here hx rfl (pc0 := 184) (pc' := 227) rfl (hb hby at_184) (by decide) (by decide) k) ?_
                show own_Go p e below K (T28.setTop (mkF m 227 #[.val (.long q1), .second, .val (.long q2), .second, .val (.long q3), .second, .val (.long q4), .second, .val (.long q5), .second, .val (.int p6), .val (.int mk), .val (.int kd), .val (.long mm), .second, .val (.long va0), .second, .val (.long vb0), .second, .val (.long vc0), .second, .val (.long vd0), .second, .val (.long ve0), .second, .val (.ref b6), .val (.ref b15), .val (.ref b15), .val (.int (1 : Int32)), .unset, .unset] []))
                refine own_st (fun t k => XS.aload X28.here hx rfl (hb hby at_227) rfl rfl k) ?_
                show own_Go p e below K (T28.setTop (mkF m 229 #[.val (.long q1), .second, .val (.long q2), .second, .val (.long q3), .second, .val (.long q4), .second, .val (.long q5), .second, .val (.int p6), .val (.int mk), .val (.int kd), .val (.long mm), .second, .val (.long va0), .second, .val (.long vb0), .second, .val (.long vc0), .second, .val (.long vd0), .second, .val (.long ve0), .second, .val (.ref b6), .val (.ref b15), .val (.ref b15), .val (.int (1 : Int32)), .unset, .unset] [(.ref b6)]))
                refine own_st (fun t k => XS.aload X28.here hx rfl (hb hby at_229) rfl rfl k) ?_
                show own_Go p e below K (T28.setTop (mkF m 231 #[.val (.long q1), .second, .val (.long q2), .second, .val (.long q3), .second, .val (.long q4), .second, .val (.long q5), .second, .val (.int p6), .val (.int mk), .val (.int kd), .val (.long mm), .second, .val (.long va0), .second, .val (.long vb0), .second, .val (.long vc0), .second, .val (.long vd0), .second, .val (.long ve0), .second, .val (.ref b6), .val (.ref b15), .val (.ref b15), .val (.int (1 : Int32)), .unset, .unset] [(.ref b15), (.ref b6)]))
                obtain ⟨cq36, kq36, qv36a, qv36b, qv36c⟩ := isOf hZ rfl f30
                obtain ⟨_, _, ⟨T36, L36, k36, n36⟩, -, X36, ⟨Lc36, hQ36, l36, y36, z36⟩, st36⟩ := X28.virtualBack hx (y := (⟨"com/example/expire_then_sweep/expirethensweep/model/ContainerStats", "equals", "(Ljava/lang/Object;)Z"⟩ : MethodName)) (z := (⟨"com/example/expire_then_sweep/expirethensweep/model/ContainerStats", "equals", "(Ljava/lang/Object;)Z"⟩ : MethodName)) hown (mvT hZ (hw _ (List.mem_of_getElem? (i := 19) rfl))) (mvT hZ (hw _ (List.mem_of_getElem? (i := 20) rfl))) (notFace_of_selects (args := #[]) (mvT hZ (hw _ (List.mem_of_getElem? (i := 22) rfl)))) (mvT hZ (hw _ (List.mem_of_getElem? (i := 22) rfl))) (mvT hZ (hw _ (List.mem_of_getElem? (i := 21) rfl))) (by decide) (backOf (W := 0) (rm3 l Z a0 hw [] b6 b15 (q1) (q2) (q3) (q4) (q5) (va0) (vb0) (vc0) (vd0) (ve0) T28.heap n0 Z28 f31 f32 f33 f34 f35 p28_0 p28_1 p28_2 p28_3 p28_4 p28_5) hZ (hw _ (List.mem_of_getElem? (i := 23) rfl)) (hw _ (List.mem_of_getElem? (i := 2) rfl)) (by decide) (by decide)) qv36a qv36c (g := (mkF m 231 #[.val (.long q1), .second, .val (.long q2), .second, .val (.long q3), .second, .val (.long q4), .second, .val (.long q5), .second, .val (.int p6), .val (.int mk), .val (.int kd), .val (.long mm), .second, .val (.long va0), .second, .val (.long vb0), .second, .val (.long vc0), .second, .val (.long vd0), .second, .val (.long ve0), .second, .val (.ref b6), .val (.ref b15), .val (.ref b15), .val (.int (1 : Int32)), .unset, .unset] [(.ref b15), (.ref b6)])) rfl (by rw [hml]; rfl) (Steps.refl _) (argsL := [(.ref b15)]) (rest := []) (lenOf pd_0_2 rfl) rfl (by show 2 * 0 + _ ≤ _; exact Nat.le_of_eq rfl) (hb hby at_231) (fun _ _ => ⟨rfl, rfl, (by decide : 2 + 0 ≤ _), (by decide : 10 + 0 ≤ _)⟩)
                dsimp only [Pt.U, Pt.locs, Pt.cells, Pt.slots] at X36 l36 y36 z36 st36 hQ36
                subst l36 y36 z36
                obtain ⟨r36, rfl, hr36, N36q, e36⟩ := hQ36
                have N36 := Fr.app N28 N36q
                refine own_tr st36 ?_
                show own_Go p e below K (T36.setTop (mkF m 234 #[.val (.long q1), .second, .val (.long q2), .second, .val (.long q3), .second, .val (.long q4), .second, .val (.long q5), .second, .val (.int p6), .val (.int mk), .val (.int kd), .val (.long mm), .second, .val (.long va0), .second, .val (.long vb0), .second, .val (.long vc0), .second, .val (.long vd0), .second, .val (.long ve0), .second, .val (.ref b6), .val (.ref b15), .val (.ref b15), .val (.int (1 : Int32)), .unset, .unset] [(.int r36)]))
                refine own_st (fun t k => XS.istore X36.here hx rfl (hb hby at_234) rfl (l' := #[.val (.long q1), .second, .val (.long q2), .second, .val (.long q3), .second, .val (.long q4), .second, .val (.long q5), .second, .val (.int p6), .val (.int mk), .val (.int kd), .val (.long mm), .second, .val (.long va0), .second, .val (.long vb0), .second, .val (.long vc0), .second, .val (.long vd0), .second, .val (.long ve0), .second, .val (.ref b6), .val (.ref b15), .val (.ref b15), .val (.int (1 : Int32)), .val (.int r36), .unset]) rfl k) ?_
                show own_Go p e below K (T36.setTop (mkF m 236 #[.val (.long q1), .second, .val (.long q2), .second, .val (.long q3), .second, .val (.long q4), .second, .val (.long q5), .second, .val (.int p6), .val (.int mk), .val (.int kd), .val (.long mm), .second, .val (.long va0), .second, .val (.long vb0), .second, .val (.long vc0), .second, .val (.long vd0), .second, .val (.long ve0), .second, .val (.ref b6), .val (.ref b15), .val (.ref b15), .val (.int (1 : Int32)), .val (.int r36), .unset] []))
                refine own_st (fun t k => XS.iload X36.here hx rfl (hb hby at_236) rfl k) ?_
                show own_Go p e below K (T36.setTop (mkF m 238 #[.val (.long q1), .second, .val (.long q2), .second, .val (.long q3), .second, .val (.long q4), .second, .val (.long q5), .second, .val (.int p6), .val (.int mk), .val (.int kd), .val (.long mm), .second, .val (.long va0), .second, .val (.long vb0), .second, .val (.long vc0), .second, .val (.long vd0), .second, .val (.long ve0), .second, .val (.ref b6), .val (.ref b15), .val (.ref b15), .val (.int (1 : Int32)), .val (.int r36), .unset] [(.int kd)]))
                refine own_st (fun t k => XS.ifNo X36.here hx rfl (hb hby at_238) rfl ((if0 _ _).trans (teq (hc165 : kd = (0 : Int32))).2) k) ?_
                show own_Go p e below K (T36.setTop (mkF m 241 #[.val (.long q1), .second, .val (.long q2), .second, .val (.long q3), .second, .val (.long q4), .second, .val (.long q5), .second, .val (.int p6), .val (.int mk), .val (.int kd), .val (.long mm), .second, .val (.long va0), .second, .val (.long vb0), .second, .val (.long vc0), .second, .val (.long vd0), .second, .val (.long ve0), .second, .val (.ref b6), .val (.ref b15), .val (.ref b15), .val (.int (1 : Int32)), .val (.int r36), .unset] []))
                refine own_st (fun t k => XS.aload X36.here hx rfl (hb hby at_241) rfl rfl k) ?_
                show own_Go p e below K (T36.setTop (mkF m 243 #[.val (.long q1), .second, .val (.long q2), .second, .val (.long q3), .second, .val (.long q4), .second, .val (.long q5), .second, .val (.int p6), .val (.int mk), .val (.int kd), .val (.long mm), .second, .val (.long va0), .second, .val (.long vb0), .second, .val (.long vc0), .second, .val (.long vd0), .second, .val (.long ve0), .second, .val (.ref b6), .val (.ref b15), .val (.ref b15), .val (.int (1 : Int32)), .val (.int r36), .unset] [(.ref b15)]))
                refine own_st (fun t k => XS.aload X36.here hx rfl (hb hby at_243) rfl rfl k) ?_
                show own_Go p e below K (T36.setTop (mkF m 245 #[.val (.long q1), .second, .val (.long q2), .second, .val (.long q3), .second, .val (.long q4), .second, .val (.long q5), .second, .val (.int p6), .val (.int mk), .val (.int kd), .val (.long mm), .second, .val (.long va0), .second, .val (.long vb0), .second, .val (.long vc0), .second, .val (.long vd0), .second, .val (.long ve0), .second, .val (.ref b6), .val (.ref b15), .val (.ref b15), .val (.int (1 : Int32)), .val (.int r36), .unset] [(.ref b6), (.ref b15)]))
                obtain ⟨cq37, kq37, qv37a, qv37b, qv37c⟩ := isOf hZ e36 p28_0
                obtain ⟨_, _, ⟨T37, L37, k37, n37⟩, -, X37, ⟨Lc37, hQ37, l37, y37, z37⟩, st37⟩ := X36.virtualBack hx (y := (⟨"com/example/expire_then_sweep/expirethensweep/model/ContainerStats", "equals", "(Ljava/lang/Object;)Z"⟩ : MethodName)) (z := (⟨"com/example/expire_then_sweep/expirethensweep/model/ContainerStats", "equals", "(Ljava/lang/Object;)Z"⟩ : MethodName)) hown (mvT hZ (hw _ (List.mem_of_getElem? (i := 19) rfl))) (mvT hZ (hw _ (List.mem_of_getElem? (i := 20) rfl))) (notFace_of_selects (args := #[]) (mvT hZ (hw _ (List.mem_of_getElem? (i := 22) rfl)))) (mvT hZ (hw _ (List.mem_of_getElem? (i := 22) rfl))) (mvT hZ (hw _ (List.mem_of_getElem? (i := 21) rfl))) (by decide) (backOf (W := 0) (rm3 l Z a0 hw [] b15 b6 (va0) (vb0) (vc0) (vd0) (ve0) (q1) (q2) (q3) (q4) (q5) T28.heap n0 Z28 p28_1 p28_2 p28_3 p28_4 p28_5 f30 f31 f32 f33 f34 f35) hZ (hw _ (List.mem_of_getElem? (i := 23) rfl)) (hw _ (List.mem_of_getElem? (i := 2) rfl)) (by decide) (by decide)) qv37a qv37c (g := (mkF m 245 #[.val (.long q1), .second, .val (.long q2), .second, .val (.long q3), .second, .val (.long q4), .second, .val (.long q5), .second, .val (.int p6), .val (.int mk), .val (.int kd), .val (.long mm), .second, .val (.long va0), .second, .val (.long vb0), .second, .val (.long vc0), .second, .val (.long vd0), .second, .val (.long ve0), .second, .val (.ref b6), .val (.ref b15), .val (.ref b15), .val (.int (1 : Int32)), .val (.int r36), .unset] [(.ref b6), (.ref b15)])) rfl (by rw [hml]; rfl) (Steps.refl _) (argsL := [(.ref b6)]) (rest := []) (lenOf pd_0_2 rfl) rfl (by show 2 * 0 + _ ≤ _; exact Nat.le_of_eq rfl) (hb hby at_245) (fun _ _ => ⟨rfl, e36, (by decide : 2 + 0 ≤ _), (by decide : 10 + 0 ≤ _)⟩)
                dsimp only [Pt.U, Pt.locs, Pt.cells, Pt.slots] at X37 l37 y37 z37 st37 hQ37
                subst l37 y37 z37
                obtain ⟨r37, rfl, hr37, N37q, e37⟩ := hQ37
                have N37 := Fr.app N36 N37q
                refine own_tr st37 ?_
                show own_Go p e below K (T37.setTop (mkF m 248 #[.val (.long q1), .second, .val (.long q2), .second, .val (.long q3), .second, .val (.long q4), .second, .val (.long q5), .second, .val (.int p6), .val (.int mk), .val (.int kd), .val (.long mm), .second, .val (.long va0), .second, .val (.long vb0), .second, .val (.long vc0), .second, .val (.long vd0), .second, .val (.long ve0), .second, .val (.ref b6), .val (.ref b15), .val (.ref b15), .val (.int (1 : Int32)), .val (.int r36), .unset] [(.int r37)]))
                refine own_st (fun t k => XS.iload X37.here hx rfl (hb hby at_248) rfl k) ?_
                show own_Go p e below K (T37.setTop (mkF m 250 #[.val (.long q1), .second, .val (.long q2), .second, .val (.long q3), .second, .val (.long q4), .second, .val (.long q5), .second, .val (.int p6), .val (.int mk), .val (.int kd), .val (.long mm), .second, .val (.long va0), .second, .val (.long vb0), .second, .val (.long vc0), .second, .val (.long vd0), .second, .val (.long ve0), .second, .val (.ref b6), .val (.ref b15), .val (.ref b15), .val (.int (1 : Int32)), .val (.int r36), .unset] [(.int r36), (.int r37)]))
                refine own_st (fun t k => XS.icmpNo X37.here hx rfl (hb hby at_250) rfl (teq (own_B.same hr37 hr36 own_eqc : r37 = r36)).2 k) ?_
                show own_Go p e below K (T37.setTop (mkF m 253 #[.val (.long q1), .second, .val (.long q2), .second, .val (.long q3), .second, .val (.long q4), .second, .val (.long q5), .second, .val (.int p6), .val (.int mk), .val (.int kd), .val (.long mm), .second, .val (.long va0), .second, .val (.long vb0), .second, .val (.long vc0), .second, .val (.long vd0), .second, .val (.long ve0), .second, .val (.ref b6), .val (.ref b15), .val (.ref b15), .val (.int (1 : Int32)), .val (.int r36), .unset] []))
                refine own_st (fun t k => XS.iconst X37.here hx rfl (hb hby at_253) k) ?_
                show own_Go p e below K (T37.setTop (mkF m 254 #[.val (.long q1), .second, .val (.long q2), .second, .val (.long q3), .second, .val (.long q4), .second, .val (.long q5), .second, .val (.int p6), .val (.int mk), .val (.int kd), .val (.long mm), .second, .val (.long va0), .second, .val (.long vb0), .second, .val (.long vc0), .second, .val (.long vd0), .second, .val (.long ve0), .second, .val (.ref b6), .val (.ref b15), .val (.ref b15), .val (.int (1 : Int32)), .val (.int r36), .unset] [(.int (1 : Int32))]))
                refine own_st (fun t k => XS.goto X37.here hx rfl (pc0 := 254) (pc' := 258) rfl (hb hby at_254) (by decide) (by decide) k) ?_
                show own_Go p e below K (T37.setTop (mkF m 258 #[.val (.long q1), .second, .val (.long q2), .second, .val (.long q3), .second, .val (.long q4), .second, .val (.long q5), .second, .val (.int p6), .val (.int mk), .val (.int kd), .val (.long mm), .second, .val (.long va0), .second, .val (.long vb0), .second, .val (.long vc0), .second, .val (.long vd0), .second, .val (.long ve0), .second, .val (.ref b6), .val (.ref b15), .val (.ref b15), .val (.int (1 : Int32)), .val (.int r36), .unset] [(.int (1 : Int32))]))
                refine own_st (fun t k => XS.istore X37.here hx rfl (hb hby at_258) rfl (l' := #[.val (.long q1), .second, .val (.long q2), .second, .val (.long q3), .second, .val (.long q4), .second, .val (.long q5), .second, .val (.int p6), .val (.int mk), .val (.int kd), .val (.long mm), .second, .val (.long va0), .second, .val (.long vb0), .second, .val (.long vc0), .second, .val (.long vd0), .second, .val (.long ve0), .second, .val (.ref b6), .val (.ref b15), .val (.ref b15), .val (.int (1 : Int32)), .val (.int r36), .val (.int (1 : Int32))]) rfl k) ?_
                show own_Go p e below K (T37.setTop (mkF m 260 #[.val (.long q1), .second, .val (.long q2), .second, .val (.long q3), .second, .val (.long q4), .second, .val (.long q5), .second, .val (.int p6), .val (.int mk), .val (.int kd), .val (.long mm), .second, .val (.long va0), .second, .val (.long vb0), .second, .val (.long vc0), .second, .val (.long vd0), .second, .val (.long ve0), .second, .val (.ref b6), .val (.ref b15), .val (.ref b15), .val (.int (1 : Int32)), .val (.int r36), .val (.int (1 : Int32))] []))
                refine own_st (fun t k => XS.iload X37.here hx rfl (hb hby at_260) rfl k) ?_
                show own_Go p e below K (T37.setTop (mkF m 262 #[.val (.long q1), .second, .val (.long q2), .second, .val (.long q3), .second, .val (.long q4), .second, .val (.long q5), .second, .val (.int p6), .val (.int mk), .val (.int kd), .val (.long mm), .second, .val (.long va0), .second, .val (.long vb0), .second, .val (.long vc0), .second, .val (.long vd0), .second, .val (.long ve0), .second, .val (.ref b6), .val (.ref b15), .val (.ref b15), .val (.int (1 : Int32)), .val (.int r36), .val (.int (1 : Int32))] [(.int r36)]))
                refine own_st (fun t k => XS.iload X37.here hx rfl (hb hby at_262) rfl k) ?_
                show own_Go p e below K (T37.setTop (mkF m 264 #[.val (.long q1), .second, .val (.long q2), .second, .val (.long q3), .second, .val (.long q4), .second, .val (.long q5), .second, .val (.int p6), .val (.int mk), .val (.int kd), .val (.long mm), .second, .val (.long va0), .second, .val (.long vb0), .second, .val (.long vc0), .second, .val (.long vd0), .second, .val (.long ve0), .second, .val (.ref b6), .val (.ref b15), .val (.ref b15), .val (.int (1 : Int32)), .val (.int r36), .val (.int (1 : Int32))] [(.int (1 : Int32)), (.int r36)]))
                refine own_st (fun t k => XS.icmpNo X37.here hx rfl (hb hby at_264) rfl (teq (own_B.one hr36 ((own_five hmk hb1 hb2 hb4 hb8 hb16).mpr hc174) : r36 = (1 : Int32))).2 k) ?_
                show own_Go p e below K (T37.setTop (mkF m 267 #[.val (.long q1), .second, .val (.long q2), .second, .val (.long q3), .second, .val (.long q4), .second, .val (.long q5), .second, .val (.int p6), .val (.int mk), .val (.int kd), .val (.long mm), .second, .val (.long va0), .second, .val (.long vb0), .second, .val (.long vc0), .second, .val (.long vd0), .second, .val (.long ve0), .second, .val (.ref b6), .val (.ref b15), .val (.ref b15), .val (.int (1 : Int32)), .val (.int r36), .val (.int (1 : Int32))] []))
                refine own_st (fun t k => XS.iload X37.here hx rfl (hb hby at_267) rfl k) ?_
                show own_Go p e below K (T37.setTop (mkF m 269 #[.val (.long q1), .second, .val (.long q2), .second, .val (.long q3), .second, .val (.long q4), .second, .val (.long q5), .second, .val (.int p6), .val (.int mk), .val (.int kd), .val (.long mm), .second, .val (.long va0), .second, .val (.long vb0), .second, .val (.long vc0), .second, .val (.long vd0), .second, .val (.long ve0), .second, .val (.ref b6), .val (.ref b15), .val (.ref b15), .val (.int (1 : Int32)), .val (.int r36), .val (.int (1 : Int32))] [(.int (1 : Int32))]))
                refine own_st (fun t k => XS.ifNo X37.here hx rfl (hb hby at_269) rfl ((if0 _ _).trans (feq (by decide : ¬ ((1 : Int32) = (0 : Int32)))).1) k) ?_
                show own_Go p e below K (T37.setTop (mkF m 272 #[.val (.long q1), .second, .val (.long q2), .second, .val (.long q3), .second, .val (.long q4), .second, .val (.long q5), .second, .val (.int p6), .val (.int mk), .val (.int kd), .val (.long mm), .second, .val (.long va0), .second, .val (.long vb0), .second, .val (.long vc0), .second, .val (.long vd0), .second, .val (.long ve0), .second, .val (.ref b6), .val (.ref b15), .val (.ref b15), .val (.int (1 : Int32)), .val (.int r36), .val (.int (1 : Int32))] []))
                refine own_st (fun t k => XS.iconst X37.here hx rfl (hb hby at_272) k) ?_
                show own_Go p e below K (T37.setTop (mkF m 273 #[.val (.long q1), .second, .val (.long q2), .second, .val (.long q3), .second, .val (.long q4), .second, .val (.long q5), .second, .val (.int p6), .val (.int mk), .val (.int kd), .val (.long mm), .second, .val (.long va0), .second, .val (.long vb0), .second, .val (.long vc0), .second, .val (.long vd0), .second, .val (.long ve0), .second, .val (.ref b6), .val (.ref b15), .val (.ref b15), .val (.int (1 : Int32)), .val (.int r36), .val (.int (1 : Int32))] [(.int (1 : Int32))]))
                refine own_st (fun t k => XS.goto X37.here hx rfl (pc0 := 273) (pc' := 277) rfl (hb hby at_273) (by decide) (by decide) k) ?_
                show own_Go p e below K (T37.setTop (mkF m 277 #[.val (.long q1), .second, .val (.long q2), .second, .val (.long q3), .second, .val (.long q4), .second, .val (.long q5), .second, .val (.int p6), .val (.int mk), .val (.int kd), .val (.long mm), .second, .val (.long va0), .second, .val (.long vb0), .second, .val (.long vc0), .second, .val (.long vd0), .second, .val (.long ve0), .second, .val (.ref b6), .val (.ref b15), .val (.ref b15), .val (.int (1 : Int32)), .val (.int r36), .val (.int (1 : Int32))] [(.int (1 : Int32))]))
                obtain ⟨fs, hr, hrun, hended, hW, hsame⟩ := X37.leave (v := some (.int (nar .boolean (1 : Int32)))) (fun h => by rw [Bd.returns] at h; cases h)
                refine ⟨_, retN X37 hx (t := .boolean) Bd.returns (by simp) (hb hby at_277) hr, fin _ _ _ hrun hended ?_ ⟨⟨_, rfl⟩, hW, hsame.mono (by decide) (by decide)⟩⟩
                show Q0 Z q1 q2 q3 q4 q5 p6 xc h0 n0 _ T37.heap _
                rw [e37]
                exact ⟨rfl, N37⟩
              refine own_st (fun t k => XS.ifYes X28.here hx rfl (pc0 := 174) (pc' := 181) rfl (hb hby at_174) rfl ((if0 _ _).trans (feq hc174).2) (by decide) (by decide) k) ?_
              show own_Go p e below K (T28.setTop (mkF m 181 #[.val (.long q1), .second, .val (.long q2), .second, .val (.long q3), .second, .val (.long q4), .second, .val (.long q5), .second, .val (.int p6), .val (.int mk), .val (.int kd), .val (.long mm), .second, .val (.long va0), .second, .val (.long vb0), .second, .val (.long vc0), .second, .val (.long vd0), .second, .val (.long ve0), .second, .val (.ref b6), .val (.ref b15), .val (.ref b15), .unset, .unset, .unset] []))
              refine own_st (fun t k => XS.iconst X28.here hx rfl (hb hby at_181) k) ?_
              show own_Go p e below K (T28.setTop (mkF m 182 #[.val (.long q1), .second, .val (.long q2), .second, .val (.long q3), .second, .val (.long q4), .second, .val (.long q5), .second, .val (.int p6), .val (.int mk), .val (.int kd), .val (.long mm), .second, .val (.long va0), .second, .val (.long vb0), .second, .val (.long vc0), .second, .val (.long vd0), .second, .val (.long ve0), .second, .val (.ref b6), .val (.ref b15), .val (.ref b15), .unset, .unset, .unset] [(.int (0 : Int32))]))
              refine own_st (fun t k => XS.istore X28.here hx rfl (hb hby at_182) rfl (l' := #[.val (.long q1), .second, .val (.long q2), .second, .val (.long q3), .second, .val (.long q4), .second, .val (.long q5), .second, .val (.int p6), .val (.int mk), .val (.int kd), .val (.long mm), .second, .val (.long va0), .second, .val (.long vb0), .second, .val (.long vc0), .second, .val (.long vd0), .second, .val (.long ve0), .second, .val (.ref b6), .val (.ref b15), .val (.ref b15), .val (.int (0 : Int32)), .unset, .unset]) rfl k) ?_
              show own_Go p e below K (T28.setTop (mkF m 184 #[.val (.long q1), .second, .val (.long q2), .second, .val (.long q3), .second, .val (.long q4), .second, .val (.long q5), .second, .val (.int p6), .val (.int mk), .val (.int kd), .val (.long mm), .second, .val (.long va0), .second, .val (.long vb0), .second, .val (.long vc0), .second, .val (.long vd0), .second, .val (.long ve0), .second, .val (.ref b6), .val (.ref b15), .val (.ref b15), .val (.int (0 : Int32)), .unset, .unset] []))
              refine own_st (fun t k => XS.goto X28.here hx rfl (pc0 := 184) (pc' := 227) rfl (hb hby at_184) (by decide) (by decide) k) ?_
              show own_Go p e below K (T28.setTop (mkF m 227 #[.val (.long q1), .second, .val (.long q2), .second, .val (.long q3), .second, .val (.long q4), .second, .val (.long q5), .second, .val (.int p6), .val (.int mk), .val (.int kd), .val (.long mm), .second, .val (.long va0), .second, .val (.long vb0), .second, .val (.long vc0), .second, .val (.long vd0), .second, .val (.long ve0), .second, .val (.ref b6), .val (.ref b15), .val (.ref b15), .val (.int (0 : Int32)), .unset, .unset] []))
              refine own_st (fun t k => XS.aload X28.here hx rfl (hb hby at_227) rfl rfl k) ?_
              show own_Go p e below K (T28.setTop (mkF m 229 #[.val (.long q1), .second, .val (.long q2), .second, .val (.long q3), .second, .val (.long q4), .second, .val (.long q5), .second, .val (.int p6), .val (.int mk), .val (.int kd), .val (.long mm), .second, .val (.long va0), .second, .val (.long vb0), .second, .val (.long vc0), .second, .val (.long vd0), .second, .val (.long ve0), .second, .val (.ref b6), .val (.ref b15), .val (.ref b15), .val (.int (0 : Int32)), .unset, .unset] [(.ref b6)]))
              refine own_st (fun t k => XS.aload X28.here hx rfl (hb hby at_229) rfl rfl k) ?_
              show own_Go p e below K (T28.setTop (mkF m 231 #[.val (.long q1), .second, .val (.long q2), .second, .val (.long q3), .second, .val (.long q4), .second, .val (.long q5), .second, .val (.int p6), .val (.int mk), .val (.int kd), .val (.long mm), .second, .val (.long va0), .second, .val (.long vb0), .second, .val (.long vc0), .second, .val (.long vd0), .second, .val (.long ve0), .second, .val (.ref b6), .val (.ref b15), .val (.ref b15), .val (.int (0 : Int32)), .unset, .unset] [(.ref b15), (.ref b6)]))
              obtain ⟨cq38, kq38, qv38a, qv38b, qv38c⟩ := isOf hZ rfl f30
              obtain ⟨_, _, ⟨T38, L38, k38, n38⟩, -, X38, ⟨Lc38, hQ38, l38, y38, z38⟩, st38⟩ := X28.virtualBack hx (y := (⟨"com/example/expire_then_sweep/expirethensweep/model/ContainerStats", "equals", "(Ljava/lang/Object;)Z"⟩ : MethodName)) (z := (⟨"com/example/expire_then_sweep/expirethensweep/model/ContainerStats", "equals", "(Ljava/lang/Object;)Z"⟩ : MethodName)) hown (mvT hZ (hw _ (List.mem_of_getElem? (i := 19) rfl))) (mvT hZ (hw _ (List.mem_of_getElem? (i := 20) rfl))) (notFace_of_selects (args := #[]) (mvT hZ (hw _ (List.mem_of_getElem? (i := 22) rfl)))) (mvT hZ (hw _ (List.mem_of_getElem? (i := 22) rfl))) (mvT hZ (hw _ (List.mem_of_getElem? (i := 21) rfl))) (by decide) (backOf (W := 0) (rm3 l Z a0 hw [] b6 b15 (q1) (q2) (q3) (q4) (q5) (va0) (vb0) (vc0) (vd0) (ve0) T28.heap n0 Z28 f31 f32 f33 f34 f35 p28_0 p28_1 p28_2 p28_3 p28_4 p28_5) hZ (hw _ (List.mem_of_getElem? (i := 23) rfl)) (hw _ (List.mem_of_getElem? (i := 2) rfl)) (by decide) (by decide)) qv38a qv38c (g := (mkF m 231 #[.val (.long q1), .second, .val (.long q2), .second, .val (.long q3), .second, .val (.long q4), .second, .val (.long q5), .second, .val (.int p6), .val (.int mk), .val (.int kd), .val (.long mm), .second, .val (.long va0), .second, .val (.long vb0), .second, .val (.long vc0), .second, .val (.long vd0), .second, .val (.long ve0), .second, .val (.ref b6), .val (.ref b15), .val (.ref b15), .val (.int (0 : Int32)), .unset, .unset] [(.ref b15), (.ref b6)])) rfl (by rw [hml]; rfl) (Steps.refl _) (argsL := [(.ref b15)]) (rest := []) (lenOf pd_0_2 rfl) rfl (by show 2 * 0 + _ ≤ _; exact Nat.le_of_eq rfl) (hb hby at_231) (fun _ _ => ⟨rfl, rfl, (by decide : 2 + 0 ≤ _), (by decide : 10 + 0 ≤ _)⟩)
              dsimp only [Pt.U, Pt.locs, Pt.cells, Pt.slots] at X38 l38 y38 z38 st38 hQ38
              subst l38 y38 z38
              obtain ⟨r38, rfl, hr38, N38q, e38⟩ := hQ38
              have N38 := Fr.app N28 N38q
              refine own_tr st38 ?_
              show own_Go p e below K (T38.setTop (mkF m 234 #[.val (.long q1), .second, .val (.long q2), .second, .val (.long q3), .second, .val (.long q4), .second, .val (.long q5), .second, .val (.int p6), .val (.int mk), .val (.int kd), .val (.long mm), .second, .val (.long va0), .second, .val (.long vb0), .second, .val (.long vc0), .second, .val (.long vd0), .second, .val (.long ve0), .second, .val (.ref b6), .val (.ref b15), .val (.ref b15), .val (.int (0 : Int32)), .unset, .unset] [(.int r38)]))
              refine own_st (fun t k => XS.istore X38.here hx rfl (hb hby at_234) rfl (l' := #[.val (.long q1), .second, .val (.long q2), .second, .val (.long q3), .second, .val (.long q4), .second, .val (.long q5), .second, .val (.int p6), .val (.int mk), .val (.int kd), .val (.long mm), .second, .val (.long va0), .second, .val (.long vb0), .second, .val (.long vc0), .second, .val (.long vd0), .second, .val (.long ve0), .second, .val (.ref b6), .val (.ref b15), .val (.ref b15), .val (.int (0 : Int32)), .val (.int r38), .unset]) rfl k) ?_
              show own_Go p e below K (T38.setTop (mkF m 236 #[.val (.long q1), .second, .val (.long q2), .second, .val (.long q3), .second, .val (.long q4), .second, .val (.long q5), .second, .val (.int p6), .val (.int mk), .val (.int kd), .val (.long mm), .second, .val (.long va0), .second, .val (.long vb0), .second, .val (.long vc0), .second, .val (.long vd0), .second, .val (.long ve0), .second, .val (.ref b6), .val (.ref b15), .val (.ref b15), .val (.int (0 : Int32)), .val (.int r38), .unset] []))
              refine own_st (fun t k => XS.iload X38.here hx rfl (hb hby at_236) rfl k) ?_
              show own_Go p e below K (T38.setTop (mkF m 238 #[.val (.long q1), .second, .val (.long q2), .second, .val (.long q3), .second, .val (.long q4), .second, .val (.long q5), .second, .val (.int p6), .val (.int mk), .val (.int kd), .val (.long mm), .second, .val (.long va0), .second, .val (.long vb0), .second, .val (.long vc0), .second, .val (.long vd0), .second, .val (.long ve0), .second, .val (.ref b6), .val (.ref b15), .val (.ref b15), .val (.int (0 : Int32)), .val (.int r38), .unset] [(.int kd)]))
              refine own_st (fun t k => XS.ifNo X38.here hx rfl (hb hby at_238) rfl ((if0 _ _).trans (teq (hc165 : kd = (0 : Int32))).2) k) ?_
              show own_Go p e below K (T38.setTop (mkF m 241 #[.val (.long q1), .second, .val (.long q2), .second, .val (.long q3), .second, .val (.long q4), .second, .val (.long q5), .second, .val (.int p6), .val (.int mk), .val (.int kd), .val (.long mm), .second, .val (.long va0), .second, .val (.long vb0), .second, .val (.long vc0), .second, .val (.long vd0), .second, .val (.long ve0), .second, .val (.ref b6), .val (.ref b15), .val (.ref b15), .val (.int (0 : Int32)), .val (.int r38), .unset] []))
              refine own_st (fun t k => XS.aload X38.here hx rfl (hb hby at_241) rfl rfl k) ?_
              show own_Go p e below K (T38.setTop (mkF m 243 #[.val (.long q1), .second, .val (.long q2), .second, .val (.long q3), .second, .val (.long q4), .second, .val (.long q5), .second, .val (.int p6), .val (.int mk), .val (.int kd), .val (.long mm), .second, .val (.long va0), .second, .val (.long vb0), .second, .val (.long vc0), .second, .val (.long vd0), .second, .val (.long ve0), .second, .val (.ref b6), .val (.ref b15), .val (.ref b15), .val (.int (0 : Int32)), .val (.int r38), .unset] [(.ref b15)]))
              refine own_st (fun t k => XS.aload X38.here hx rfl (hb hby at_243) rfl rfl k) ?_
              show own_Go p e below K (T38.setTop (mkF m 245 #[.val (.long q1), .second, .val (.long q2), .second, .val (.long q3), .second, .val (.long q4), .second, .val (.long q5), .second, .val (.int p6), .val (.int mk), .val (.int kd), .val (.long mm), .second, .val (.long va0), .second, .val (.long vb0), .second, .val (.long vc0), .second, .val (.long vd0), .second, .val (.long ve0), .second, .val (.ref b6), .val (.ref b15), .val (.ref b15), .val (.int (0 : Int32)), .val (.int r38), .unset] [(.ref b6), (.ref b15)]))
              obtain ⟨cq39, kq39, qv39a, qv39b, qv39c⟩ := isOf hZ e38 p28_0
              obtain ⟨_, _, ⟨T39, L39, k39, n39⟩, -, X39, ⟨Lc39, hQ39, l39, y39, z39⟩, st39⟩ := X38.virtualBack hx (y := (⟨"com/example/expire_then_sweep/expirethensweep/model/ContainerStats", "equals", "(Ljava/lang/Object;)Z"⟩ : MethodName)) (z := (⟨"com/example/expire_then_sweep/expirethensweep/model/ContainerStats", "equals", "(Ljava/lang/Object;)Z"⟩ : MethodName)) hown (mvT hZ (hw _ (List.mem_of_getElem? (i := 19) rfl))) (mvT hZ (hw _ (List.mem_of_getElem? (i := 20) rfl))) (notFace_of_selects (args := #[]) (mvT hZ (hw _ (List.mem_of_getElem? (i := 22) rfl)))) (mvT hZ (hw _ (List.mem_of_getElem? (i := 22) rfl))) (mvT hZ (hw _ (List.mem_of_getElem? (i := 21) rfl))) (by decide) (backOf (W := 0) (rm3 l Z a0 hw [] b15 b6 (va0) (vb0) (vc0) (vd0) (ve0) (q1) (q2) (q3) (q4) (q5) T28.heap n0 Z28 p28_1 p28_2 p28_3 p28_4 p28_5 f30 f31 f32 f33 f34 f35) hZ (hw _ (List.mem_of_getElem? (i := 23) rfl)) (hw _ (List.mem_of_getElem? (i := 2) rfl)) (by decide) (by decide)) qv39a qv39c (g := (mkF m 245 #[.val (.long q1), .second, .val (.long q2), .second, .val (.long q3), .second, .val (.long q4), .second, .val (.long q5), .second, .val (.int p6), .val (.int mk), .val (.int kd), .val (.long mm), .second, .val (.long va0), .second, .val (.long vb0), .second, .val (.long vc0), .second, .val (.long vd0), .second, .val (.long ve0), .second, .val (.ref b6), .val (.ref b15), .val (.ref b15), .val (.int (0 : Int32)), .val (.int r38), .unset] [(.ref b6), (.ref b15)])) rfl (by rw [hml]; rfl) (Steps.refl _) (argsL := [(.ref b6)]) (rest := []) (lenOf pd_0_2 rfl) rfl (by show 2 * 0 + _ ≤ _; exact Nat.le_of_eq rfl) (hb hby at_245) (fun _ _ => ⟨rfl, e38, (by decide : 2 + 0 ≤ _), (by decide : 10 + 0 ≤ _)⟩)
              dsimp only [Pt.U, Pt.locs, Pt.cells, Pt.slots] at X39 l39 y39 z39 st39 hQ39
              subst l39 y39 z39
              obtain ⟨r39, rfl, hr39, N39q, e39⟩ := hQ39
              have N39 := Fr.app N38 N39q
              refine own_tr st39 ?_
              show own_Go p e below K (T39.setTop (mkF m 248 #[.val (.long q1), .second, .val (.long q2), .second, .val (.long q3), .second, .val (.long q4), .second, .val (.long q5), .second, .val (.int p6), .val (.int mk), .val (.int kd), .val (.long mm), .second, .val (.long va0), .second, .val (.long vb0), .second, .val (.long vc0), .second, .val (.long vd0), .second, .val (.long ve0), .second, .val (.ref b6), .val (.ref b15), .val (.ref b15), .val (.int (0 : Int32)), .val (.int r38), .unset] [(.int r39)]))
              refine own_st (fun t k => XS.iload X39.here hx rfl (hb hby at_248) rfl k) ?_
              show own_Go p e below K (T39.setTop (mkF m 250 #[.val (.long q1), .second, .val (.long q2), .second, .val (.long q3), .second, .val (.long q4), .second, .val (.long q5), .second, .val (.int p6), .val (.int mk), .val (.int kd), .val (.long mm), .second, .val (.long va0), .second, .val (.long vb0), .second, .val (.long vc0), .second, .val (.long vd0), .second, .val (.long ve0), .second, .val (.ref b6), .val (.ref b15), .val (.ref b15), .val (.int (0 : Int32)), .val (.int r38), .unset] [(.int r38), (.int r39)]))
              refine own_st (fun t k => XS.icmpNo X39.here hx rfl (hb hby at_250) rfl (teq (own_B.same hr39 hr38 own_eqc : r39 = r38)).2 k) ?_
              show own_Go p e below K (T39.setTop (mkF m 253 #[.val (.long q1), .second, .val (.long q2), .second, .val (.long q3), .second, .val (.long q4), .second, .val (.long q5), .second, .val (.int p6), .val (.int mk), .val (.int kd), .val (.long mm), .second, .val (.long va0), .second, .val (.long vb0), .second, .val (.long vc0), .second, .val (.long vd0), .second, .val (.long ve0), .second, .val (.ref b6), .val (.ref b15), .val (.ref b15), .val (.int (0 : Int32)), .val (.int r38), .unset] []))
              refine own_st (fun t k => XS.iconst X39.here hx rfl (hb hby at_253) k) ?_
              show own_Go p e below K (T39.setTop (mkF m 254 #[.val (.long q1), .second, .val (.long q2), .second, .val (.long q3), .second, .val (.long q4), .second, .val (.long q5), .second, .val (.int p6), .val (.int mk), .val (.int kd), .val (.long mm), .second, .val (.long va0), .second, .val (.long vb0), .second, .val (.long vc0), .second, .val (.long vd0), .second, .val (.long ve0), .second, .val (.ref b6), .val (.ref b15), .val (.ref b15), .val (.int (0 : Int32)), .val (.int r38), .unset] [(.int (1 : Int32))]))
              refine own_st (fun t k => XS.goto X39.here hx rfl (pc0 := 254) (pc' := 258) rfl (hb hby at_254) (by decide) (by decide) k) ?_
              show own_Go p e below K (T39.setTop (mkF m 258 #[.val (.long q1), .second, .val (.long q2), .second, .val (.long q3), .second, .val (.long q4), .second, .val (.long q5), .second, .val (.int p6), .val (.int mk), .val (.int kd), .val (.long mm), .second, .val (.long va0), .second, .val (.long vb0), .second, .val (.long vc0), .second, .val (.long vd0), .second, .val (.long ve0), .second, .val (.ref b6), .val (.ref b15), .val (.ref b15), .val (.int (0 : Int32)), .val (.int r38), .unset] [(.int (1 : Int32))]))
              refine own_st (fun t k => XS.istore X39.here hx rfl (hb hby at_258) rfl (l' := #[.val (.long q1), .second, .val (.long q2), .second, .val (.long q3), .second, .val (.long q4), .second, .val (.long q5), .second, .val (.int p6), .val (.int mk), .val (.int kd), .val (.long mm), .second, .val (.long va0), .second, .val (.long vb0), .second, .val (.long vc0), .second, .val (.long vd0), .second, .val (.long ve0), .second, .val (.ref b6), .val (.ref b15), .val (.ref b15), .val (.int (0 : Int32)), .val (.int r38), .val (.int (1 : Int32))]) rfl k) ?_
              show own_Go p e below K (T39.setTop (mkF m 260 #[.val (.long q1), .second, .val (.long q2), .second, .val (.long q3), .second, .val (.long q4), .second, .val (.long q5), .second, .val (.int p6), .val (.int mk), .val (.int kd), .val (.long mm), .second, .val (.long va0), .second, .val (.long vb0), .second, .val (.long vc0), .second, .val (.long vd0), .second, .val (.long ve0), .second, .val (.ref b6), .val (.ref b15), .val (.ref b15), .val (.int (0 : Int32)), .val (.int r38), .val (.int (1 : Int32))] []))
              refine own_st (fun t k => XS.iload X39.here hx rfl (hb hby at_260) rfl k) ?_
              show own_Go p e below K (T39.setTop (mkF m 262 #[.val (.long q1), .second, .val (.long q2), .second, .val (.long q3), .second, .val (.long q4), .second, .val (.long q5), .second, .val (.int p6), .val (.int mk), .val (.int kd), .val (.long mm), .second, .val (.long va0), .second, .val (.long vb0), .second, .val (.long vc0), .second, .val (.long vd0), .second, .val (.long ve0), .second, .val (.ref b6), .val (.ref b15), .val (.ref b15), .val (.int (0 : Int32)), .val (.int r38), .val (.int (1 : Int32))] [(.int r38)]))
              refine own_st (fun t k => XS.iload X39.here hx rfl (hb hby at_262) rfl k) ?_
              show own_Go p e below K (T39.setTop (mkF m 264 #[.val (.long q1), .second, .val (.long q2), .second, .val (.long q3), .second, .val (.long q4), .second, .val (.long q5), .second, .val (.int p6), .val (.int mk), .val (.int kd), .val (.long mm), .second, .val (.long va0), .second, .val (.long vb0), .second, .val (.long vc0), .second, .val (.long vd0), .second, .val (.long ve0), .second, .val (.ref b6), .val (.ref b15), .val (.ref b15), .val (.int (0 : Int32)), .val (.int r38), .val (.int (1 : Int32))] [(.int (0 : Int32)), (.int r38)]))
              refine own_st (fun t k => XS.icmpNo X39.here hx rfl (hb hby at_264) rfl (teq (own_B.zero hr38 (fun q => hc174 ((own_five hmk hb1 hb2 hb4 hb8 hb16).mp q)) : r38 = (0 : Int32))).2 k) ?_
              show own_Go p e below K (T39.setTop (mkF m 267 #[.val (.long q1), .second, .val (.long q2), .second, .val (.long q3), .second, .val (.long q4), .second, .val (.long q5), .second, .val (.int p6), .val (.int mk), .val (.int kd), .val (.long mm), .second, .val (.long va0), .second, .val (.long vb0), .second, .val (.long vc0), .second, .val (.long vd0), .second, .val (.long ve0), .second, .val (.ref b6), .val (.ref b15), .val (.ref b15), .val (.int (0 : Int32)), .val (.int r38), .val (.int (1 : Int32))] []))
              refine own_st (fun t k => XS.iload X39.here hx rfl (hb hby at_267) rfl k) ?_
              show own_Go p e below K (T39.setTop (mkF m 269 #[.val (.long q1), .second, .val (.long q2), .second, .val (.long q3), .second, .val (.long q4), .second, .val (.long q5), .second, .val (.int p6), .val (.int mk), .val (.int kd), .val (.long mm), .second, .val (.long va0), .second, .val (.long vb0), .second, .val (.long vc0), .second, .val (.long vd0), .second, .val (.long ve0), .second, .val (.ref b6), .val (.ref b15), .val (.ref b15), .val (.int (0 : Int32)), .val (.int r38), .val (.int (1 : Int32))] [(.int (1 : Int32))]))
              refine own_st (fun t k => XS.ifNo X39.here hx rfl (hb hby at_269) rfl ((if0 _ _).trans (feq (by decide : ¬ ((1 : Int32) = (0 : Int32)))).1) k) ?_
              show own_Go p e below K (T39.setTop (mkF m 272 #[.val (.long q1), .second, .val (.long q2), .second, .val (.long q3), .second, .val (.long q4), .second, .val (.long q5), .second, .val (.int p6), .val (.int mk), .val (.int kd), .val (.long mm), .second, .val (.long va0), .second, .val (.long vb0), .second, .val (.long vc0), .second, .val (.long vd0), .second, .val (.long ve0), .second, .val (.ref b6), .val (.ref b15), .val (.ref b15), .val (.int (0 : Int32)), .val (.int r38), .val (.int (1 : Int32))] []))
              refine own_st (fun t k => XS.iconst X39.here hx rfl (hb hby at_272) k) ?_
              show own_Go p e below K (T39.setTop (mkF m 273 #[.val (.long q1), .second, .val (.long q2), .second, .val (.long q3), .second, .val (.long q4), .second, .val (.long q5), .second, .val (.int p6), .val (.int mk), .val (.int kd), .val (.long mm), .second, .val (.long va0), .second, .val (.long vb0), .second, .val (.long vc0), .second, .val (.long vd0), .second, .val (.long ve0), .second, .val (.ref b6), .val (.ref b15), .val (.ref b15), .val (.int (0 : Int32)), .val (.int r38), .val (.int (1 : Int32))] [(.int (1 : Int32))]))
              refine own_st (fun t k => XS.goto X39.here hx rfl (pc0 := 273) (pc' := 277) rfl (hb hby at_273) (by decide) (by decide) k) ?_
              show own_Go p e below K (T39.setTop (mkF m 277 #[.val (.long q1), .second, .val (.long q2), .second, .val (.long q3), .second, .val (.long q4), .second, .val (.long q5), .second, .val (.int p6), .val (.int mk), .val (.int kd), .val (.long mm), .second, .val (.long va0), .second, .val (.long vb0), .second, .val (.long vc0), .second, .val (.long vd0), .second, .val (.long ve0), .second, .val (.ref b6), .val (.ref b15), .val (.ref b15), .val (.int (0 : Int32)), .val (.int r38), .val (.int (1 : Int32))] [(.int (1 : Int32))]))
              obtain ⟨fs, hr, hrun, hended, hW, hsame⟩ := X39.leave (v := some (.int (nar .boolean (1 : Int32)))) (fun h => by rw [Bd.returns] at h; cases h)
              refine ⟨_, retN X39 hx (t := .boolean) Bd.returns (by simp) (hb hby at_277) hr, fin _ _ _ hrun hended ?_ ⟨⟨_, rfl⟩, hW, hsame.mono (by decide) (by decide)⟩⟩
              show Q0 Z q1 q2 q3 q4 q5 p6 xc h0 n0 _ T39.heap _
              rw [e39]
              exact ⟨rfl, N39⟩
            refine own_st (fun t k => XS.ifYes X28.here hx rfl (pc0 := 165) (pc' := 187) rfl (hb hby at_165) rfl ((if0 _ _).trans (feq hc165).2) (by decide) (by decide) k) ?_
            show own_Go p e below K (T28.setTop (mkF m 187 #[.val (.long q1), .second, .val (.long q2), .second, .val (.long q3), .second, .val (.long q4), .second, .val (.long q5), .second, .val (.int p6), .val (.int mk), .val (.int kd), .val (.long mm), .second, .val (.long va0), .second, .val (.long vb0), .second, .val (.long vc0), .second, .val (.long vd0), .second, .val (.long ve0), .second, .val (.ref b6), .val (.ref b15), .unset, .unset, .unset, .unset] []))
            refine own_st (fun t k => XS.iload X28.here hx rfl (hb hby at_187) rfl k) ?_
            show own_Go p e below K (T28.setTop (mkF m 189 #[.val (.long q1), .second, .val (.long q2), .second, .val (.long q3), .second, .val (.long q4), .second, .val (.long q5), .second, .val (.int p6), .val (.int mk), .val (.int kd), .val (.long mm), .second, .val (.long va0), .second, .val (.long vb0), .second, .val (.long vc0), .second, .val (.long vd0), .second, .val (.long ve0), .second, .val (.ref b6), .val (.ref b15), .unset, .unset, .unset, .unset] [(.int kd)]))
            refine own_st (fun t k => XS.iconst X28.here hx rfl (hb hby at_189) k) ?_
            show own_Go p e below K (T28.setTop (mkF m 190 #[.val (.long q1), .second, .val (.long q2), .second, .val (.long q3), .second, .val (.long q4), .second, .val (.long q5), .second, .val (.int p6), .val (.int mk), .val (.int kd), .val (.long mm), .second, .val (.long va0), .second, .val (.long vb0), .second, .val (.long vc0), .second, .val (.long vd0), .second, .val (.long ve0), .second, .val (.ref b6), .val (.ref b15), .unset, .unset, .unset, .unset] [(.int (1 : Int32)), (.int kd)]))
            by_cases hc190 : kd = (1 : Int32)
            · refine own_st (fun t k => XS.icmpNo X28.here hx rfl (hb hby at_190) rfl (teq hc190).2 k) ?_
              show own_Go p e below K (T28.setTop (mkF m 193 #[.val (.long q1), .second, .val (.long q2), .second, .val (.long q3), .second, .val (.long q4), .second, .val (.long q5), .second, .val (.int p6), .val (.int mk), .val (.int kd), .val (.long mm), .second, .val (.long va0), .second, .val (.long vb0), .second, .val (.long vc0), .second, .val (.long vd0), .second, .val (.long ve0), .second, .val (.ref b6), .val (.ref b15), .unset, .unset, .unset, .unset] []))
              refine own_st (fun t k => XS.aconstNull X28.here hx rfl (hb hby at_193) k) ?_
              show own_Go p e below K (T28.setTop (mkF m 194 #[.val (.long q1), .second, .val (.long q2), .second, .val (.long q3), .second, .val (.long q4), .second, .val (.long q5), .second, .val (.int p6), .val (.int mk), .val (.int kd), .val (.long mm), .second, .val (.long va0), .second, .val (.long vb0), .second, .val (.long vc0), .second, .val (.long vd0), .second, .val (.long ve0), .second, .val (.ref b6), .val (.ref b15), .unset, .unset, .unset, .unset] [.null]))
              refine own_st (fun t k => XS.astore X28.here hx rfl (hb hby at_194) rfl rfl (l' := #[.val (.long q1), .second, .val (.long q2), .second, .val (.long q3), .second, .val (.long q4), .second, .val (.long q5), .second, .val (.int p6), .val (.int mk), .val (.int kd), .val (.long mm), .second, .val (.long va0), .second, .val (.long vb0), .second, .val (.long vc0), .second, .val (.long vd0), .second, .val (.long ve0), .second, .val (.ref b6), .val (.ref b15), .val .null, .unset, .unset, .unset]) rfl k) ?_
              show own_Go p e below K (T28.setTop (mkF m 196 #[.val (.long q1), .second, .val (.long q2), .second, .val (.long q3), .second, .val (.long q4), .second, .val (.long q5), .second, .val (.int p6), .val (.int mk), .val (.int kd), .val (.long mm), .second, .val (.long va0), .second, .val (.long vb0), .second, .val (.long vc0), .second, .val (.long vd0), .second, .val (.long ve0), .second, .val (.ref b6), .val (.ref b15), .val .null, .unset, .unset, .unset] []))
              refine own_st (fun t k => XS.iconst X28.here hx rfl (hb hby at_196) k) ?_
              show own_Go p e below K (T28.setTop (mkF m 197 #[.val (.long q1), .second, .val (.long q2), .second, .val (.long q3), .second, .val (.long q4), .second, .val (.long q5), .second, .val (.int p6), .val (.int mk), .val (.int kd), .val (.long mm), .second, .val (.long va0), .second, .val (.long vb0), .second, .val (.long vc0), .second, .val (.long vd0), .second, .val (.long ve0), .second, .val (.ref b6), .val (.ref b15), .val .null, .unset, .unset, .unset] [(.int (0 : Int32))]))
              refine own_st (fun t k => XS.istore X28.here hx rfl (hb hby at_197) rfl (l' := #[.val (.long q1), .second, .val (.long q2), .second, .val (.long q3), .second, .val (.long q4), .second, .val (.long q5), .second, .val (.int p6), .val (.int mk), .val (.int kd), .val (.long mm), .second, .val (.long va0), .second, .val (.long vb0), .second, .val (.long vc0), .second, .val (.long vd0), .second, .val (.long ve0), .second, .val (.ref b6), .val (.ref b15), .val .null, .val (.int (0 : Int32)), .unset, .unset]) rfl k) ?_
              show own_Go p e below K (T28.setTop (mkF m 199 #[.val (.long q1), .second, .val (.long q2), .second, .val (.long q3), .second, .val (.long q4), .second, .val (.long q5), .second, .val (.int p6), .val (.int mk), .val (.int kd), .val (.long mm), .second, .val (.long va0), .second, .val (.long vb0), .second, .val (.long vc0), .second, .val (.long vd0), .second, .val (.long ve0), .second, .val (.ref b6), .val (.ref b15), .val .null, .val (.int (0 : Int32)), .unset, .unset] []))
              refine own_st (fun t k => XS.goto X28.here hx rfl (pc0 := 199) (pc' := 227) rfl (hb hby at_199) (by decide) (by decide) k) ?_
              show own_Go p e below K (T28.setTop (mkF m 227 #[.val (.long q1), .second, .val (.long q2), .second, .val (.long q3), .second, .val (.long q4), .second, .val (.long q5), .second, .val (.int p6), .val (.int mk), .val (.int kd), .val (.long mm), .second, .val (.long va0), .second, .val (.long vb0), .second, .val (.long vc0), .second, .val (.long vd0), .second, .val (.long ve0), .second, .val (.ref b6), .val (.ref b15), .val .null, .val (.int (0 : Int32)), .unset, .unset] []))
              refine own_st (fun t k => XS.aload X28.here hx rfl (hb hby at_227) rfl rfl k) ?_
              show own_Go p e below K (T28.setTop (mkF m 229 #[.val (.long q1), .second, .val (.long q2), .second, .val (.long q3), .second, .val (.long q4), .second, .val (.long q5), .second, .val (.int p6), .val (.int mk), .val (.int kd), .val (.long mm), .second, .val (.long va0), .second, .val (.long vb0), .second, .val (.long vc0), .second, .val (.long vd0), .second, .val (.long ve0), .second, .val (.ref b6), .val (.ref b15), .val .null, .val (.int (0 : Int32)), .unset, .unset] [(.ref b6)]))
              refine own_st (fun t k => XS.aload X28.here hx rfl (hb hby at_229) rfl rfl k) ?_
              show own_Go p e below K (T28.setTop (mkF m 231 #[.val (.long q1), .second, .val (.long q2), .second, .val (.long q3), .second, .val (.long q4), .second, .val (.long q5), .second, .val (.int p6), .val (.int mk), .val (.int kd), .val (.long mm), .second, .val (.long va0), .second, .val (.long vb0), .second, .val (.long vc0), .second, .val (.long vd0), .second, .val (.long ve0), .second, .val (.ref b6), .val (.ref b15), .val .null, .val (.int (0 : Int32)), .unset, .unset] [.null, (.ref b6)]))
              obtain ⟨cq40, kq40, qv40a, qv40b, qv40c⟩ := isOf hZ rfl f30
              obtain ⟨_, _, ⟨T40, L40, k40, n40⟩, -, X40, ⟨Lc40, hQ40, l40, y40, z40⟩, st40⟩ := X28.virtualBack hx (y := (⟨"com/example/expire_then_sweep/expirethensweep/model/ContainerStats", "equals", "(Ljava/lang/Object;)Z"⟩ : MethodName)) (z := (⟨"com/example/expire_then_sweep/expirethensweep/model/ContainerStats", "equals", "(Ljava/lang/Object;)Z"⟩ : MethodName)) hown (mvT hZ (hw _ (List.mem_of_getElem? (i := 19) rfl))) (mvT hZ (hw _ (List.mem_of_getElem? (i := 20) rfl))) (notFace_of_selects (args := #[]) (mvT hZ (hw _ (List.mem_of_getElem? (i := 22) rfl)))) (mvT hZ (hw _ (List.mem_of_getElem? (i := 22) rfl))) (mvT hZ (hw _ (List.mem_of_getElem? (i := 21) rfl))) (by decide) (backOf (W := 0) (rm3n l Z a0 hw [] b6 T28.heap n0 Z28) hZ (hw _ (List.mem_of_getElem? (i := 23) rfl)) (hw _ (List.mem_of_getElem? (i := 2) rfl)) (by decide) (by decide)) qv40a qv40c (g := (mkF m 231 #[.val (.long q1), .second, .val (.long q2), .second, .val (.long q3), .second, .val (.long q4), .second, .val (.long q5), .second, .val (.int p6), .val (.int mk), .val (.int kd), .val (.long mm), .second, .val (.long va0), .second, .val (.long vb0), .second, .val (.long vc0), .second, .val (.long vd0), .second, .val (.long ve0), .second, .val (.ref b6), .val (.ref b15), .val .null, .val (.int (0 : Int32)), .unset, .unset] [.null, (.ref b6)])) rfl (by rw [hml]; rfl) (Steps.refl _) (argsL := [.null]) (rest := []) (lenOf pd_0_2 rfl) rfl (by show 2 * 0 + _ ≤ _; exact Nat.le_of_eq rfl) (hb hby at_231) (fun _ _ => ⟨rfl, rfl, (by decide : 2 + 0 ≤ _), (by decide : 10 + 0 ≤ _)⟩)
              dsimp only [Pt.U, Pt.locs, Pt.cells, Pt.slots] at X40 l40 y40 z40 st40 hQ40
              subst l40 y40 z40
              obtain ⟨r40, rfl, hr40, N40q, e40⟩ := hQ40
              have N40 := Fr.app N28 N40q
              refine own_tr st40 ?_
              show own_Go p e below K (T40.setTop (mkF m 234 #[.val (.long q1), .second, .val (.long q2), .second, .val (.long q3), .second, .val (.long q4), .second, .val (.long q5), .second, .val (.int p6), .val (.int mk), .val (.int kd), .val (.long mm), .second, .val (.long va0), .second, .val (.long vb0), .second, .val (.long vc0), .second, .val (.long vd0), .second, .val (.long ve0), .second, .val (.ref b6), .val (.ref b15), .val .null, .val (.int (0 : Int32)), .unset, .unset] [(.int r40)]))
              refine own_st (fun t k => XS.istore X40.here hx rfl (hb hby at_234) rfl (l' := #[.val (.long q1), .second, .val (.long q2), .second, .val (.long q3), .second, .val (.long q4), .second, .val (.long q5), .second, .val (.int p6), .val (.int mk), .val (.int kd), .val (.long mm), .second, .val (.long va0), .second, .val (.long vb0), .second, .val (.long vc0), .second, .val (.long vd0), .second, .val (.long ve0), .second, .val (.ref b6), .val (.ref b15), .val .null, .val (.int (0 : Int32)), .val (.int r40), .unset]) rfl k) ?_
              show own_Go p e below K (T40.setTop (mkF m 236 #[.val (.long q1), .second, .val (.long q2), .second, .val (.long q3), .second, .val (.long q4), .second, .val (.long q5), .second, .val (.int p6), .val (.int mk), .val (.int kd), .val (.long mm), .second, .val (.long va0), .second, .val (.long vb0), .second, .val (.long vc0), .second, .val (.long vd0), .second, .val (.long ve0), .second, .val (.ref b6), .val (.ref b15), .val .null, .val (.int (0 : Int32)), .val (.int r40), .unset] []))
              refine own_st (fun t k => XS.iload X40.here hx rfl (hb hby at_236) rfl k) ?_
              show own_Go p e below K (T40.setTop (mkF m 238 #[.val (.long q1), .second, .val (.long q2), .second, .val (.long q3), .second, .val (.long q4), .second, .val (.long q5), .second, .val (.int p6), .val (.int mk), .val (.int kd), .val (.long mm), .second, .val (.long va0), .second, .val (.long vb0), .second, .val (.long vc0), .second, .val (.long vd0), .second, .val (.long ve0), .second, .val (.ref b6), .val (.ref b15), .val .null, .val (.int (0 : Int32)), .val (.int r40), .unset] [(.int kd)]))
              refine own_st (fun t k => XS.ifYes X40.here hx rfl (pc0 := 238) (pc' := 253) rfl (hb hby at_238) rfl ((if0 _ _).trans (feq (hc165 : ¬ (kd = (0 : Int32)))).2) (by decide) (by decide) k) ?_
              show own_Go p e below K (T40.setTop (mkF m 253 #[.val (.long q1), .second, .val (.long q2), .second, .val (.long q3), .second, .val (.long q4), .second, .val (.long q5), .second, .val (.int p6), .val (.int mk), .val (.int kd), .val (.long mm), .second, .val (.long va0), .second, .val (.long vb0), .second, .val (.long vc0), .second, .val (.long vd0), .second, .val (.long ve0), .second, .val (.ref b6), .val (.ref b15), .val .null, .val (.int (0 : Int32)), .val (.int r40), .unset] []))
              refine own_st (fun t k => XS.iconst X40.here hx rfl (hb hby at_253) k) ?_
              show own_Go p e below K (T40.setTop (mkF m 254 #[.val (.long q1), .second, .val (.long q2), .second, .val (.long q3), .second, .val (.long q4), .second, .val (.long q5), .second, .val (.int p6), .val (.int mk), .val (.int kd), .val (.long mm), .second, .val (.long va0), .second, .val (.long vb0), .second, .val (.long vc0), .second, .val (.long vd0), .second, .val (.long ve0), .second, .val (.ref b6), .val (.ref b15), .val .null, .val (.int (0 : Int32)), .val (.int r40), .unset] [(.int (1 : Int32))]))
              refine own_st (fun t k => XS.goto X40.here hx rfl (pc0 := 254) (pc' := 258) rfl (hb hby at_254) (by decide) (by decide) k) ?_
              show own_Go p e below K (T40.setTop (mkF m 258 #[.val (.long q1), .second, .val (.long q2), .second, .val (.long q3), .second, .val (.long q4), .second, .val (.long q5), .second, .val (.int p6), .val (.int mk), .val (.int kd), .val (.long mm), .second, .val (.long va0), .second, .val (.long vb0), .second, .val (.long vc0), .second, .val (.long vd0), .second, .val (.long ve0), .second, .val (.ref b6), .val (.ref b15), .val .null, .val (.int (0 : Int32)), .val (.int r40), .unset] [(.int (1 : Int32))]))
              refine own_st (fun t k => XS.istore X40.here hx rfl (hb hby at_258) rfl (l' := #[.val (.long q1), .second, .val (.long q2), .second, .val (.long q3), .second, .val (.long q4), .second, .val (.long q5), .second, .val (.int p6), .val (.int mk), .val (.int kd), .val (.long mm), .second, .val (.long va0), .second, .val (.long vb0), .second, .val (.long vc0), .second, .val (.long vd0), .second, .val (.long ve0), .second, .val (.ref b6), .val (.ref b15), .val .null, .val (.int (0 : Int32)), .val (.int r40), .val (.int (1 : Int32))]) rfl k) ?_
              show own_Go p e below K (T40.setTop (mkF m 260 #[.val (.long q1), .second, .val (.long q2), .second, .val (.long q3), .second, .val (.long q4), .second, .val (.long q5), .second, .val (.int p6), .val (.int mk), .val (.int kd), .val (.long mm), .second, .val (.long va0), .second, .val (.long vb0), .second, .val (.long vc0), .second, .val (.long vd0), .second, .val (.long ve0), .second, .val (.ref b6), .val (.ref b15), .val .null, .val (.int (0 : Int32)), .val (.int r40), .val (.int (1 : Int32))] []))
              refine own_st (fun t k => XS.iload X40.here hx rfl (hb hby at_260) rfl k) ?_
              show own_Go p e below K (T40.setTop (mkF m 262 #[.val (.long q1), .second, .val (.long q2), .second, .val (.long q3), .second, .val (.long q4), .second, .val (.long q5), .second, .val (.int p6), .val (.int mk), .val (.int kd), .val (.long mm), .second, .val (.long va0), .second, .val (.long vb0), .second, .val (.long vc0), .second, .val (.long vd0), .second, .val (.long ve0), .second, .val (.ref b6), .val (.ref b15), .val .null, .val (.int (0 : Int32)), .val (.int r40), .val (.int (1 : Int32))] [(.int r40)]))
              refine own_st (fun t k => XS.iload X40.here hx rfl (hb hby at_262) rfl k) ?_
              show own_Go p e below K (T40.setTop (mkF m 264 #[.val (.long q1), .second, .val (.long q2), .second, .val (.long q3), .second, .val (.long q4), .second, .val (.long q5), .second, .val (.int p6), .val (.int mk), .val (.int kd), .val (.long mm), .second, .val (.long va0), .second, .val (.long vb0), .second, .val (.long vc0), .second, .val (.long vd0), .second, .val (.long ve0), .second, .val (.ref b6), .val (.ref b15), .val .null, .val (.int (0 : Int32)), .val (.int r40), .val (.int (1 : Int32))] [(.int (0 : Int32)), (.int r40)]))
              refine own_st (fun t k => XS.icmpNo X40.here hx rfl (hb hby at_264) rfl (teq (hr40 : r40 = (0 : Int32))).2 k) ?_
              show own_Go p e below K (T40.setTop (mkF m 267 #[.val (.long q1), .second, .val (.long q2), .second, .val (.long q3), .second, .val (.long q4), .second, .val (.long q5), .second, .val (.int p6), .val (.int mk), .val (.int kd), .val (.long mm), .second, .val (.long va0), .second, .val (.long vb0), .second, .val (.long vc0), .second, .val (.long vd0), .second, .val (.long ve0), .second, .val (.ref b6), .val (.ref b15), .val .null, .val (.int (0 : Int32)), .val (.int r40), .val (.int (1 : Int32))] []))
              refine own_st (fun t k => XS.iload X40.here hx rfl (hb hby at_267) rfl k) ?_
              show own_Go p e below K (T40.setTop (mkF m 269 #[.val (.long q1), .second, .val (.long q2), .second, .val (.long q3), .second, .val (.long q4), .second, .val (.long q5), .second, .val (.int p6), .val (.int mk), .val (.int kd), .val (.long mm), .second, .val (.long va0), .second, .val (.long vb0), .second, .val (.long vc0), .second, .val (.long vd0), .second, .val (.long ve0), .second, .val (.ref b6), .val (.ref b15), .val .null, .val (.int (0 : Int32)), .val (.int r40), .val (.int (1 : Int32))] [(.int (1 : Int32))]))
              refine own_st (fun t k => XS.ifNo X40.here hx rfl (hb hby at_269) rfl ((if0 _ _).trans (feq (by decide : ¬ ((1 : Int32) = (0 : Int32)))).1) k) ?_
              show own_Go p e below K (T40.setTop (mkF m 272 #[.val (.long q1), .second, .val (.long q2), .second, .val (.long q3), .second, .val (.long q4), .second, .val (.long q5), .second, .val (.int p6), .val (.int mk), .val (.int kd), .val (.long mm), .second, .val (.long va0), .second, .val (.long vb0), .second, .val (.long vc0), .second, .val (.long vd0), .second, .val (.long ve0), .second, .val (.ref b6), .val (.ref b15), .val .null, .val (.int (0 : Int32)), .val (.int r40), .val (.int (1 : Int32))] []))
              refine own_st (fun t k => XS.iconst X40.here hx rfl (hb hby at_272) k) ?_
              show own_Go p e below K (T40.setTop (mkF m 273 #[.val (.long q1), .second, .val (.long q2), .second, .val (.long q3), .second, .val (.long q4), .second, .val (.long q5), .second, .val (.int p6), .val (.int mk), .val (.int kd), .val (.long mm), .second, .val (.long va0), .second, .val (.long vb0), .second, .val (.long vc0), .second, .val (.long vd0), .second, .val (.long ve0), .second, .val (.ref b6), .val (.ref b15), .val .null, .val (.int (0 : Int32)), .val (.int r40), .val (.int (1 : Int32))] [(.int (1 : Int32))]))
              refine own_st (fun t k => XS.goto X40.here hx rfl (pc0 := 273) (pc' := 277) rfl (hb hby at_273) (by decide) (by decide) k) ?_
              show own_Go p e below K (T40.setTop (mkF m 277 #[.val (.long q1), .second, .val (.long q2), .second, .val (.long q3), .second, .val (.long q4), .second, .val (.long q5), .second, .val (.int p6), .val (.int mk), .val (.int kd), .val (.long mm), .second, .val (.long va0), .second, .val (.long vb0), .second, .val (.long vc0), .second, .val (.long vd0), .second, .val (.long ve0), .second, .val (.ref b6), .val (.ref b15), .val .null, .val (.int (0 : Int32)), .val (.int r40), .val (.int (1 : Int32))] [(.int (1 : Int32))]))
              obtain ⟨fs, hr, hrun, hended, hW, hsame⟩ := X40.leave (v := some (.int (nar .boolean (1 : Int32)))) (fun h => by rw [Bd.returns] at h; cases h)
              refine ⟨_, retN X40 hx (t := .boolean) Bd.returns (by simp) (hb hby at_277) hr, fin _ _ _ hrun hended ?_ ⟨⟨_, rfl⟩, hW, hsame.mono (by decide) (by decide)⟩⟩
              show Q0 Z q1 q2 q3 q4 q5 p6 xc h0 n0 _ T40.heap _
              rw [e40]
              exact ⟨rfl, N40⟩
            refine own_st (fun t k => XS.icmpYes X28.here hx rfl (pc0 := 190) (pc' := 202) rfl (hb hby at_190) rfl (feq hc190).2 (by decide) (by decide) k) ?_
            show own_Go p e below K (T28.setTop (mkF m 202 #[.val (.long q1), .second, .val (.long q2), .second, .val (.long q3), .second, .val (.long q4), .second, .val (.long q5), .second, .val (.int p6), .val (.int mk), .val (.int kd), .val (.long mm), .second, .val (.long va0), .second, .val (.long vb0), .second, .val (.long vc0), .second, .val (.long vd0), .second, .val (.long ve0), .second, .val (.ref b6), .val (.ref b15), .unset, .unset, .unset, .unset] []))
            refine own_st (fun t k => XS.iload X28.here hx rfl (hb hby at_202) rfl k) ?_
            show own_Go p e below K (T28.setTop (mkF m 204 #[.val (.long q1), .second, .val (.long q2), .second, .val (.long q3), .second, .val (.long q4), .second, .val (.long q5), .second, .val (.int p6), .val (.int mk), .val (.int kd), .val (.long mm), .second, .val (.long va0), .second, .val (.long vb0), .second, .val (.long vc0), .second, .val (.long vd0), .second, .val (.long ve0), .second, .val (.ref b6), .val (.ref b15), .unset, .unset, .unset, .unset] [(.int kd)]))
            refine own_st (fun t k => XS.iconst X28.here hx rfl (hb hby at_204) k) ?_
            show own_Go p e below K (T28.setTop (mkF m 205 #[.val (.long q1), .second, .val (.long q2), .second, .val (.long q3), .second, .val (.long q4), .second, .val (.long q5), .second, .val (.int p6), .val (.int mk), .val (.int kd), .val (.long mm), .second, .val (.long va0), .second, .val (.long vb0), .second, .val (.long vc0), .second, .val (.long vd0), .second, .val (.long ve0), .second, .val (.ref b6), .val (.ref b15), .unset, .unset, .unset, .unset] [(.int (2 : Int32)), (.int kd)]))
            by_cases hc205 : kd = (2 : Int32)
            · refine own_st (fun t k => XS.icmpNo X28.here hx rfl (hb hby at_205) rfl (teq hc205).2 k) ?_
              show own_Go p e below K (T28.setTop (mkF m 208 #[.val (.long q1), .second, .val (.long q2), .second, .val (.long q3), .second, .val (.long q4), .second, .val (.long q5), .second, .val (.int p6), .val (.int mk), .val (.int kd), .val (.long mm), .second, .val (.long va0), .second, .val (.long vb0), .second, .val (.long vc0), .second, .val (.long vd0), .second, .val (.long ve0), .second, .val (.ref b6), .val (.ref b15), .unset, .unset, .unset, .unset] []))
              refine own_st (fun t k => XS.lloadN X28.here hx rfl (hb hby at_208) rfl k) ?_
              show own_Go p e below K (T28.setTop (mkF m 209 #[.val (.long q1), .second, .val (.long q2), .second, .val (.long q3), .second, .val (.long q4), .second, .val (.long q5), .second, .val (.int p6), .val (.int mk), .val (.int kd), .val (.long mm), .second, .val (.long va0), .second, .val (.long vb0), .second, .val (.long vc0), .second, .val (.long vd0), .second, .val (.long ve0), .second, .val (.ref b6), .val (.ref b15), .unset, .unset, .unset, .unset] [(.long q1)]))
              obtain ⟨_, _, ⟨T41, L41, k41, n41⟩, -, X41, ⟨Lc41, hQ41, l41, y41, z41⟩, st41⟩ := Jvm.LawKit.callS X28 hx (y := (⟨"java/lang/Long", "valueOf", "(J)Ljava/lang/Long;"⟩ : MethodName)) hown (mvT hZ (hw _ (List.mem_of_getElem? (i := 26) rfl))) (mvT hZ (hw _ (List.mem_of_getElem? (i := 27) rfl))) (mvT hZ (hw _ (List.mem_of_getElem? (i := 28) rfl))) (mvT hZ (hw _ (List.mem_of_getElem? (i := 29) rfl))) (by decide) (backOf (W := 0) (rm4 l Z a0 hw [] q1 (xc) T28.heap n0 Z28 f29 SC hC) hZ (hw _ (List.mem_of_getElem? (i := 29) rfl)) (hw _ (List.mem_of_getElem? (i := 28) rfl)) (by decide) (by decide)) (g := (mkF m 209 #[.val (.long q1), .second, .val (.long q2), .second, .val (.long q3), .second, .val (.long q4), .second, .val (.long q5), .second, .val (.int p6), .val (.int mk), .val (.int kd), .val (.long mm), .second, .val (.long va0), .second, .val (.long vb0), .second, .val (.long vc0), .second, .val (.long vd0), .second, .val (.long ve0), .second, .val (.ref b6), .val (.ref b15), .unset, .unset, .unset, .unset] [(.long q1)])) rfl (by rw [hml]; rfl) (argsL := [(.long q1)]) (rest := []) (lenOf pd_0_3 rfl) rfl (by show 2 * 0 + _ ≤ _; exact Nat.le_of_eq rfl) (hb hby at_209) (fun _ _ => ⟨rfl, rfl, (by decide : 2 + 1 ≤ _), (by decide : 10 + 1 ≤ _)⟩)
              dsimp only [Pt.U, Pt.locs, Pt.cells, Pt.slots] at X41 l41 y41 z41 st41 hQ41
              subst l41 y41 z41
              obtain ⟨r41, rfl, hr41, N41q, Kq41, p41_0⟩ := hQ41
              have N41 := Fr.app N28 N41q
              have f42 : Old Z n0 T41.heap := f29.keep Kq41 all0
              have f43 : Exa Z T41.heap b6 "com/example/expire_then_sweep/expirethensweep/model/ContainerStats" := f30.keep Kq41
              have f44 : Fld Z T41.heap b6 "com/example/expire_then_sweep/expirethensweep/model/ContainerStats" "storedItems" "J" (.long q1) := f31.keep Kq41 nin0
              have f45 : Fld Z T41.heap b6 "com/example/expire_then_sweep/expirethensweep/model/ContainerStats" "liveItems" "J" (.long q2) := f32.keep Kq41 nin0
              have f46 : Fld Z T41.heap b6 "com/example/expire_then_sweep/expirethensweep/model/ContainerStats" "sweptItems" "J" (.long q3) := f33.keep Kq41 nin0
              have f47 : Fld Z T41.heap b6 "com/example/expire_then_sweep/expirethensweep/model/ContainerStats" "userUnits" "J" (.long q4) := f34.keep Kq41 nin0
              have f48 : Fld Z T41.heap b6 "com/example/expire_then_sweep/expirethensweep/model/ContainerStats" "sweepUnits" "J" (.long q5) := f35.keep Kq41 nin0
              have f49 : Exa Z T41.heap b15 "com/example/expire_then_sweep/expirethensweep/model/ContainerStats" := p28_0.keep Kq41
              have f50 : Fld Z T41.heap b15 "com/example/expire_then_sweep/expirethensweep/model/ContainerStats" "storedItems" "J" (.long va0) := p28_1.keep Kq41 nin0
              have f51 : Fld Z T41.heap b15 "com/example/expire_then_sweep/expirethensweep/model/ContainerStats" "liveItems" "J" (.long vb0) := p28_2.keep Kq41 nin0
              have f52 : Fld Z T41.heap b15 "com/example/expire_then_sweep/expirethensweep/model/ContainerStats" "sweptItems" "J" (.long vc0) := p28_3.keep Kq41 nin0
              have f53 : Fld Z T41.heap b15 "com/example/expire_then_sweep/expirethensweep/model/ContainerStats" "userUnits" "J" (.long vd0) := p28_4.keep Kq41 nin0
              have f54 : Fld Z T41.heap b15 "com/example/expire_then_sweep/expirethensweep/model/ContainerStats" "sweepUnits" "J" (.long ve0) := p28_5.keep Kq41 nin0
              have Z41 : n0 ≤ T41.heap.size := Nat.le_trans Z28 Kq41.1
              refine own_st st41 ?_
              show own_Go p e below K (T41.setTop (mkF m 212 #[.val (.long q1), .second, .val (.long q2), .second, .val (.long q3), .second, .val (.long q4), .second, .val (.long q5), .second, .val (.int p6), .val (.int mk), .val (.int kd), .val (.long mm), .second, .val (.long va0), .second, .val (.long vb0), .second, .val (.long vc0), .second, .val (.long vd0), .second, .val (.long ve0), .second, .val (.ref b6), .val (.ref b15), .unset, .unset, .unset, .unset] [(.ref r41)]))
              refine own_st (fun t k => XS.astore X41.here hx rfl (hb hby at_212) rfl rfl (l' := #[.val (.long q1), .second, .val (.long q2), .second, .val (.long q3), .second, .val (.long q4), .second, .val (.long q5), .second, .val (.int p6), .val (.int mk), .val (.int kd), .val (.long mm), .second, .val (.long va0), .second, .val (.long vb0), .second, .val (.long vc0), .second, .val (.long vd0), .second, .val (.long ve0), .second, .val (.ref b6), .val (.ref b15), .val (.ref r41), .unset, .unset, .unset]) rfl k) ?_
              show own_Go p e below K (T41.setTop (mkF m 214 #[.val (.long q1), .second, .val (.long q2), .second, .val (.long q3), .second, .val (.long q4), .second, .val (.long q5), .second, .val (.int p6), .val (.int mk), .val (.int kd), .val (.long mm), .second, .val (.long va0), .second, .val (.long vb0), .second, .val (.long vc0), .second, .val (.long vd0), .second, .val (.long ve0), .second, .val (.ref b6), .val (.ref b15), .val (.ref r41), .unset, .unset, .unset] []))
              refine own_st (fun t k => XS.iconst X41.here hx rfl (hb hby at_214) k) ?_
              show own_Go p e below K (T41.setTop (mkF m 215 #[.val (.long q1), .second, .val (.long q2), .second, .val (.long q3), .second, .val (.long q4), .second, .val (.long q5), .second, .val (.int p6), .val (.int mk), .val (.int kd), .val (.long mm), .second, .val (.long va0), .second, .val (.long vb0), .second, .val (.long vc0), .second, .val (.long vd0), .second, .val (.long ve0), .second, .val (.ref b6), .val (.ref b15), .val (.ref r41), .unset, .unset, .unset] [(.int (0 : Int32))]))
              refine own_st (fun t k => XS.istore X41.here hx rfl (hb hby at_215) rfl (l' := #[.val (.long q1), .second, .val (.long q2), .second, .val (.long q3), .second, .val (.long q4), .second, .val (.long q5), .second, .val (.int p6), .val (.int mk), .val (.int kd), .val (.long mm), .second, .val (.long va0), .second, .val (.long vb0), .second, .val (.long vc0), .second, .val (.long vd0), .second, .val (.long ve0), .second, .val (.ref b6), .val (.ref b15), .val (.ref r41), .val (.int (0 : Int32)), .unset, .unset]) rfl k) ?_
              show own_Go p e below K (T41.setTop (mkF m 217 #[.val (.long q1), .second, .val (.long q2), .second, .val (.long q3), .second, .val (.long q4), .second, .val (.long q5), .second, .val (.int p6), .val (.int mk), .val (.int kd), .val (.long mm), .second, .val (.long va0), .second, .val (.long vb0), .second, .val (.long vc0), .second, .val (.long vd0), .second, .val (.long ve0), .second, .val (.ref b6), .val (.ref b15), .val (.ref r41), .val (.int (0 : Int32)), .unset, .unset] []))
              refine own_st (fun t k => XS.goto X41.here hx rfl (pc0 := 217) (pc' := 227) rfl (hb hby at_217) (by decide) (by decide) k) ?_
              show own_Go p e below K (T41.setTop (mkF m 227 #[.val (.long q1), .second, .val (.long q2), .second, .val (.long q3), .second, .val (.long q4), .second, .val (.long q5), .second, .val (.int p6), .val (.int mk), .val (.int kd), .val (.long mm), .second, .val (.long va0), .second, .val (.long vb0), .second, .val (.long vc0), .second, .val (.long vd0), .second, .val (.long ve0), .second, .val (.ref b6), .val (.ref b15), .val (.ref r41), .val (.int (0 : Int32)), .unset, .unset] []))
              refine own_st (fun t k => XS.aload X41.here hx rfl (hb hby at_227) rfl rfl k) ?_
              show own_Go p e below K (T41.setTop (mkF m 229 #[.val (.long q1), .second, .val (.long q2), .second, .val (.long q3), .second, .val (.long q4), .second, .val (.long q5), .second, .val (.int p6), .val (.int mk), .val (.int kd), .val (.long mm), .second, .val (.long va0), .second, .val (.long vb0), .second, .val (.long vc0), .second, .val (.long vd0), .second, .val (.long ve0), .second, .val (.ref b6), .val (.ref b15), .val (.ref r41), .val (.int (0 : Int32)), .unset, .unset] [(.ref b6)]))
              refine own_st (fun t k => XS.aload X41.here hx rfl (hb hby at_229) rfl rfl k) ?_
              show own_Go p e below K (T41.setTop (mkF m 231 #[.val (.long q1), .second, .val (.long q2), .second, .val (.long q3), .second, .val (.long q4), .second, .val (.long q5), .second, .val (.int p6), .val (.int mk), .val (.int kd), .val (.long mm), .second, .val (.long va0), .second, .val (.long vb0), .second, .val (.long vc0), .second, .val (.long vd0), .second, .val (.long ve0), .second, .val (.ref b6), .val (.ref b15), .val (.ref r41), .val (.int (0 : Int32)), .unset, .unset] [(.ref r41), (.ref b6)]))
              obtain ⟨cq55, kq55, qv55a, qv55b, qv55c⟩ := isOf hZ rfl f43
              obtain ⟨_, _, ⟨T55, L55, k55, n55⟩, -, X55, ⟨Lc55, hQ55, l55, y55, z55⟩, st55⟩ := X41.virtualBack hx (y := (⟨"com/example/expire_then_sweep/expirethensweep/model/ContainerStats", "equals", "(Ljava/lang/Object;)Z"⟩ : MethodName)) (z := (⟨"com/example/expire_then_sweep/expirethensweep/model/ContainerStats", "equals", "(Ljava/lang/Object;)Z"⟩ : MethodName)) hown (mvT hZ (hw _ (List.mem_of_getElem? (i := 19) rfl))) (mvT hZ (hw _ (List.mem_of_getElem? (i := 20) rfl))) (notFace_of_selects (args := #[]) (mvT hZ (hw _ (List.mem_of_getElem? (i := 22) rfl)))) (mvT hZ (hw _ (List.mem_of_getElem? (i := 22) rfl))) (mvT hZ (hw _ (List.mem_of_getElem? (i := 21) rfl))) (by decide) (backOf (W := 0) (rm3l l Z a0 hw [] b6 r41 T41.heap n0 Z41 p41_0) hZ (hw _ (List.mem_of_getElem? (i := 23) rfl)) (hw _ (List.mem_of_getElem? (i := 2) rfl)) (by decide) (by decide)) qv55a qv55c (g := (mkF m 231 #[.val (.long q1), .second, .val (.long q2), .second, .val (.long q3), .second, .val (.long q4), .second, .val (.long q5), .second, .val (.int p6), .val (.int mk), .val (.int kd), .val (.long mm), .second, .val (.long va0), .second, .val (.long vb0), .second, .val (.long vc0), .second, .val (.long vd0), .second, .val (.long ve0), .second, .val (.ref b6), .val (.ref b15), .val (.ref r41), .val (.int (0 : Int32)), .unset, .unset] [(.ref r41), (.ref b6)])) rfl (by rw [hml]; rfl) (Steps.refl _) (argsL := [(.ref r41)]) (rest := []) (lenOf pd_0_2 rfl) rfl (by show 2 * 0 + _ ≤ _; exact Nat.le_of_eq rfl) (hb hby at_231) (fun _ _ => ⟨rfl, rfl, (by decide : 3 + 0 ≤ _), (by decide : 11 + 0 ≤ _)⟩)
              dsimp only [Pt.U, Pt.locs, Pt.cells, Pt.slots] at X55 l55 y55 z55 st55 hQ55
              subst l55 y55 z55
              obtain ⟨r55, rfl, hr55, N55q, e55⟩ := hQ55
              have N55 := Fr.app N41 N55q
              refine own_tr st55 ?_
              show own_Go p e below K (T55.setTop (mkF m 234 #[.val (.long q1), .second, .val (.long q2), .second, .val (.long q3), .second, .val (.long q4), .second, .val (.long q5), .second, .val (.int p6), .val (.int mk), .val (.int kd), .val (.long mm), .second, .val (.long va0), .second, .val (.long vb0), .second, .val (.long vc0), .second, .val (.long vd0), .second, .val (.long ve0), .second, .val (.ref b6), .val (.ref b15), .val (.ref r41), .val (.int (0 : Int32)), .unset, .unset] [(.int r55)]))
              refine own_st (fun t k => XS.istore X55.here hx rfl (hb hby at_234) rfl (l' := #[.val (.long q1), .second, .val (.long q2), .second, .val (.long q3), .second, .val (.long q4), .second, .val (.long q5), .second, .val (.int p6), .val (.int mk), .val (.int kd), .val (.long mm), .second, .val (.long va0), .second, .val (.long vb0), .second, .val (.long vc0), .second, .val (.long vd0), .second, .val (.long ve0), .second, .val (.ref b6), .val (.ref b15), .val (.ref r41), .val (.int (0 : Int32)), .val (.int r55), .unset]) rfl k) ?_
              show own_Go p e below K (T55.setTop (mkF m 236 #[.val (.long q1), .second, .val (.long q2), .second, .val (.long q3), .second, .val (.long q4), .second, .val (.long q5), .second, .val (.int p6), .val (.int mk), .val (.int kd), .val (.long mm), .second, .val (.long va0), .second, .val (.long vb0), .second, .val (.long vc0), .second, .val (.long vd0), .second, .val (.long ve0), .second, .val (.ref b6), .val (.ref b15), .val (.ref r41), .val (.int (0 : Int32)), .val (.int r55), .unset] []))
              refine own_st (fun t k => XS.iload X55.here hx rfl (hb hby at_236) rfl k) ?_
              show own_Go p e below K (T55.setTop (mkF m 238 #[.val (.long q1), .second, .val (.long q2), .second, .val (.long q3), .second, .val (.long q4), .second, .val (.long q5), .second, .val (.int p6), .val (.int mk), .val (.int kd), .val (.long mm), .second, .val (.long va0), .second, .val (.long vb0), .second, .val (.long vc0), .second, .val (.long vd0), .second, .val (.long ve0), .second, .val (.ref b6), .val (.ref b15), .val (.ref r41), .val (.int (0 : Int32)), .val (.int r55), .unset] [(.int kd)]))
              refine own_st (fun t k => XS.ifYes X55.here hx rfl (pc0 := 238) (pc' := 253) rfl (hb hby at_238) rfl ((if0 _ _).trans (feq (hc165 : ¬ (kd = (0 : Int32)))).2) (by decide) (by decide) k) ?_
              show own_Go p e below K (T55.setTop (mkF m 253 #[.val (.long q1), .second, .val (.long q2), .second, .val (.long q3), .second, .val (.long q4), .second, .val (.long q5), .second, .val (.int p6), .val (.int mk), .val (.int kd), .val (.long mm), .second, .val (.long va0), .second, .val (.long vb0), .second, .val (.long vc0), .second, .val (.long vd0), .second, .val (.long ve0), .second, .val (.ref b6), .val (.ref b15), .val (.ref r41), .val (.int (0 : Int32)), .val (.int r55), .unset] []))
              refine own_st (fun t k => XS.iconst X55.here hx rfl (hb hby at_253) k) ?_
              show own_Go p e below K (T55.setTop (mkF m 254 #[.val (.long q1), .second, .val (.long q2), .second, .val (.long q3), .second, .val (.long q4), .second, .val (.long q5), .second, .val (.int p6), .val (.int mk), .val (.int kd), .val (.long mm), .second, .val (.long va0), .second, .val (.long vb0), .second, .val (.long vc0), .second, .val (.long vd0), .second, .val (.long ve0), .second, .val (.ref b6), .val (.ref b15), .val (.ref r41), .val (.int (0 : Int32)), .val (.int r55), .unset] [(.int (1 : Int32))]))
              refine own_st (fun t k => XS.goto X55.here hx rfl (pc0 := 254) (pc' := 258) rfl (hb hby at_254) (by decide) (by decide) k) ?_
              show own_Go p e below K (T55.setTop (mkF m 258 #[.val (.long q1), .second, .val (.long q2), .second, .val (.long q3), .second, .val (.long q4), .second, .val (.long q5), .second, .val (.int p6), .val (.int mk), .val (.int kd), .val (.long mm), .second, .val (.long va0), .second, .val (.long vb0), .second, .val (.long vc0), .second, .val (.long vd0), .second, .val (.long ve0), .second, .val (.ref b6), .val (.ref b15), .val (.ref r41), .val (.int (0 : Int32)), .val (.int r55), .unset] [(.int (1 : Int32))]))
              refine own_st (fun t k => XS.istore X55.here hx rfl (hb hby at_258) rfl (l' := #[.val (.long q1), .second, .val (.long q2), .second, .val (.long q3), .second, .val (.long q4), .second, .val (.long q5), .second, .val (.int p6), .val (.int mk), .val (.int kd), .val (.long mm), .second, .val (.long va0), .second, .val (.long vb0), .second, .val (.long vc0), .second, .val (.long vd0), .second, .val (.long ve0), .second, .val (.ref b6), .val (.ref b15), .val (.ref r41), .val (.int (0 : Int32)), .val (.int r55), .val (.int (1 : Int32))]) rfl k) ?_
              show own_Go p e below K (T55.setTop (mkF m 260 #[.val (.long q1), .second, .val (.long q2), .second, .val (.long q3), .second, .val (.long q4), .second, .val (.long q5), .second, .val (.int p6), .val (.int mk), .val (.int kd), .val (.long mm), .second, .val (.long va0), .second, .val (.long vb0), .second, .val (.long vc0), .second, .val (.long vd0), .second, .val (.long ve0), .second, .val (.ref b6), .val (.ref b15), .val (.ref r41), .val (.int (0 : Int32)), .val (.int r55), .val (.int (1 : Int32))] []))
              refine own_st (fun t k => XS.iload X55.here hx rfl (hb hby at_260) rfl k) ?_
              show own_Go p e below K (T55.setTop (mkF m 262 #[.val (.long q1), .second, .val (.long q2), .second, .val (.long q3), .second, .val (.long q4), .second, .val (.long q5), .second, .val (.int p6), .val (.int mk), .val (.int kd), .val (.long mm), .second, .val (.long va0), .second, .val (.long vb0), .second, .val (.long vc0), .second, .val (.long vd0), .second, .val (.long ve0), .second, .val (.ref b6), .val (.ref b15), .val (.ref r41), .val (.int (0 : Int32)), .val (.int r55), .val (.int (1 : Int32))] [(.int r55)]))
              refine own_st (fun t k => XS.iload X55.here hx rfl (hb hby at_262) rfl k) ?_
              show own_Go p e below K (T55.setTop (mkF m 264 #[.val (.long q1), .second, .val (.long q2), .second, .val (.long q3), .second, .val (.long q4), .second, .val (.long q5), .second, .val (.int p6), .val (.int mk), .val (.int kd), .val (.long mm), .second, .val (.long va0), .second, .val (.long vb0), .second, .val (.long vc0), .second, .val (.long vd0), .second, .val (.long ve0), .second, .val (.ref b6), .val (.ref b15), .val (.ref r41), .val (.int (0 : Int32)), .val (.int r55), .val (.int (1 : Int32))] [(.int (0 : Int32)), (.int r55)]))
              refine own_st (fun t k => XS.icmpNo X55.here hx rfl (hb hby at_264) rfl (teq (hr55 : r55 = (0 : Int32))).2 k) ?_
              show own_Go p e below K (T55.setTop (mkF m 267 #[.val (.long q1), .second, .val (.long q2), .second, .val (.long q3), .second, .val (.long q4), .second, .val (.long q5), .second, .val (.int p6), .val (.int mk), .val (.int kd), .val (.long mm), .second, .val (.long va0), .second, .val (.long vb0), .second, .val (.long vc0), .second, .val (.long vd0), .second, .val (.long ve0), .second, .val (.ref b6), .val (.ref b15), .val (.ref r41), .val (.int (0 : Int32)), .val (.int r55), .val (.int (1 : Int32))] []))
              refine own_st (fun t k => XS.iload X55.here hx rfl (hb hby at_267) rfl k) ?_
              show own_Go p e below K (T55.setTop (mkF m 269 #[.val (.long q1), .second, .val (.long q2), .second, .val (.long q3), .second, .val (.long q4), .second, .val (.long q5), .second, .val (.int p6), .val (.int mk), .val (.int kd), .val (.long mm), .second, .val (.long va0), .second, .val (.long vb0), .second, .val (.long vc0), .second, .val (.long vd0), .second, .val (.long ve0), .second, .val (.ref b6), .val (.ref b15), .val (.ref r41), .val (.int (0 : Int32)), .val (.int r55), .val (.int (1 : Int32))] [(.int (1 : Int32))]))
              refine own_st (fun t k => XS.ifNo X55.here hx rfl (hb hby at_269) rfl ((if0 _ _).trans (feq (by decide : ¬ ((1 : Int32) = (0 : Int32)))).1) k) ?_
              show own_Go p e below K (T55.setTop (mkF m 272 #[.val (.long q1), .second, .val (.long q2), .second, .val (.long q3), .second, .val (.long q4), .second, .val (.long q5), .second, .val (.int p6), .val (.int mk), .val (.int kd), .val (.long mm), .second, .val (.long va0), .second, .val (.long vb0), .second, .val (.long vc0), .second, .val (.long vd0), .second, .val (.long ve0), .second, .val (.ref b6), .val (.ref b15), .val (.ref r41), .val (.int (0 : Int32)), .val (.int r55), .val (.int (1 : Int32))] []))
              refine own_st (fun t k => XS.iconst X55.here hx rfl (hb hby at_272) k) ?_
              show own_Go p e below K (T55.setTop (mkF m 273 #[.val (.long q1), .second, .val (.long q2), .second, .val (.long q3), .second, .val (.long q4), .second, .val (.long q5), .second, .val (.int p6), .val (.int mk), .val (.int kd), .val (.long mm), .second, .val (.long va0), .second, .val (.long vb0), .second, .val (.long vc0), .second, .val (.long vd0), .second, .val (.long ve0), .second, .val (.ref b6), .val (.ref b15), .val (.ref r41), .val (.int (0 : Int32)), .val (.int r55), .val (.int (1 : Int32))] [(.int (1 : Int32))]))
              refine own_st (fun t k => XS.goto X55.here hx rfl (pc0 := 273) (pc' := 277) rfl (hb hby at_273) (by decide) (by decide) k) ?_
              show own_Go p e below K (T55.setTop (mkF m 277 #[.val (.long q1), .second, .val (.long q2), .second, .val (.long q3), .second, .val (.long q4), .second, .val (.long q5), .second, .val (.int p6), .val (.int mk), .val (.int kd), .val (.long mm), .second, .val (.long va0), .second, .val (.long vb0), .second, .val (.long vc0), .second, .val (.long vd0), .second, .val (.long ve0), .second, .val (.ref b6), .val (.ref b15), .val (.ref r41), .val (.int (0 : Int32)), .val (.int r55), .val (.int (1 : Int32))] [(.int (1 : Int32))]))
              obtain ⟨fs, hr, hrun, hended, hW, hsame⟩ := X55.leave (v := some (.int (nar .boolean (1 : Int32)))) (fun h => by rw [Bd.returns] at h; cases h)
              refine ⟨_, retN X55 hx (t := .boolean) Bd.returns (by simp) (hb hby at_277) hr, fin _ _ _ hrun hended ?_ ⟨⟨_, rfl⟩, hW, hsame.mono (by decide) (by decide)⟩⟩
              show Q0 Z q1 q2 q3 q4 q5 p6 xc h0 n0 _ T55.heap _
              rw [e55]
              exact ⟨rfl, N55⟩
            refine own_st (fun t k => XS.icmpYes X28.here hx rfl (pc0 := 205) (pc' := 220) rfl (hb hby at_205) rfl (feq hc205).2 (by decide) (by decide) k) ?_
            show own_Go p e below K (T28.setTop (mkF m 220 #[.val (.long q1), .second, .val (.long q2), .second, .val (.long q3), .second, .val (.long q4), .second, .val (.long q5), .second, .val (.int p6), .val (.int mk), .val (.int kd), .val (.long mm), .second, .val (.long va0), .second, .val (.long vb0), .second, .val (.long vc0), .second, .val (.long vd0), .second, .val (.long ve0), .second, .val (.ref b6), .val (.ref b15), .unset, .unset, .unset, .unset] []))
            refine own_st (fun t k => XS.aload X28.here hx rfl (hb hby at_220) rfl rfl k) ?_
            show own_Go p e below K (T28.setTop (mkF m 222 #[.val (.long q1), .second, .val (.long q2), .second, .val (.long q3), .second, .val (.long q4), .second, .val (.long q5), .second, .val (.int p6), .val (.int mk), .val (.int kd), .val (.long mm), .second, .val (.long va0), .second, .val (.long vb0), .second, .val (.long vc0), .second, .val (.long vd0), .second, .val (.long ve0), .second, .val (.ref b6), .val (.ref b15), .unset, .unset, .unset, .unset] [(.ref b6)]))
            refine own_st (fun t k => XS.astore X28.here hx rfl (hb hby at_222) rfl rfl (l' := #[.val (.long q1), .second, .val (.long q2), .second, .val (.long q3), .second, .val (.long q4), .second, .val (.long q5), .second, .val (.int p6), .val (.int mk), .val (.int kd), .val (.long mm), .second, .val (.long va0), .second, .val (.long vb0), .second, .val (.long vc0), .second, .val (.long vd0), .second, .val (.long ve0), .second, .val (.ref b6), .val (.ref b15), .val (.ref b6), .unset, .unset, .unset]) rfl k) ?_
            show own_Go p e below K (T28.setTop (mkF m 224 #[.val (.long q1), .second, .val (.long q2), .second, .val (.long q3), .second, .val (.long q4), .second, .val (.long q5), .second, .val (.int p6), .val (.int mk), .val (.int kd), .val (.long mm), .second, .val (.long va0), .second, .val (.long vb0), .second, .val (.long vc0), .second, .val (.long vd0), .second, .val (.long ve0), .second, .val (.ref b6), .val (.ref b15), .val (.ref b6), .unset, .unset, .unset] []))
            refine own_st (fun t k => XS.iconst X28.here hx rfl (hb hby at_224) k) ?_
            show own_Go p e below K (T28.setTop (mkF m 225 #[.val (.long q1), .second, .val (.long q2), .second, .val (.long q3), .second, .val (.long q4), .second, .val (.long q5), .second, .val (.int p6), .val (.int mk), .val (.int kd), .val (.long mm), .second, .val (.long va0), .second, .val (.long vb0), .second, .val (.long vc0), .second, .val (.long vd0), .second, .val (.long ve0), .second, .val (.ref b6), .val (.ref b15), .val (.ref b6), .unset, .unset, .unset] [(.int (1 : Int32))]))
            refine own_st (fun t k => XS.istore X28.here hx rfl (hb hby at_225) rfl (l' := #[.val (.long q1), .second, .val (.long q2), .second, .val (.long q3), .second, .val (.long q4), .second, .val (.long q5), .second, .val (.int p6), .val (.int mk), .val (.int kd), .val (.long mm), .second, .val (.long va0), .second, .val (.long vb0), .second, .val (.long vc0), .second, .val (.long vd0), .second, .val (.long ve0), .second, .val (.ref b6), .val (.ref b15), .val (.ref b6), .val (.int (1 : Int32)), .unset, .unset]) rfl k) ?_
            show own_Go p e below K (T28.setTop (mkF m 227 #[.val (.long q1), .second, .val (.long q2), .second, .val (.long q3), .second, .val (.long q4), .second, .val (.long q5), .second, .val (.int p6), .val (.int mk), .val (.int kd), .val (.long mm), .second, .val (.long va0), .second, .val (.long vb0), .second, .val (.long vc0), .second, .val (.long vd0), .second, .val (.long ve0), .second, .val (.ref b6), .val (.ref b15), .val (.ref b6), .val (.int (1 : Int32)), .unset, .unset] []))
            refine own_st (fun t k => XS.aload X28.here hx rfl (hb hby at_227) rfl rfl k) ?_
            show own_Go p e below K (T28.setTop (mkF m 229 #[.val (.long q1), .second, .val (.long q2), .second, .val (.long q3), .second, .val (.long q4), .second, .val (.long q5), .second, .val (.int p6), .val (.int mk), .val (.int kd), .val (.long mm), .second, .val (.long va0), .second, .val (.long vb0), .second, .val (.long vc0), .second, .val (.long vd0), .second, .val (.long ve0), .second, .val (.ref b6), .val (.ref b15), .val (.ref b6), .val (.int (1 : Int32)), .unset, .unset] [(.ref b6)]))
            refine own_st (fun t k => XS.aload X28.here hx rfl (hb hby at_229) rfl rfl k) ?_
            show own_Go p e below K (T28.setTop (mkF m 231 #[.val (.long q1), .second, .val (.long q2), .second, .val (.long q3), .second, .val (.long q4), .second, .val (.long q5), .second, .val (.int p6), .val (.int mk), .val (.int kd), .val (.long mm), .second, .val (.long va0), .second, .val (.long vb0), .second, .val (.long vc0), .second, .val (.long vd0), .second, .val (.long ve0), .second, .val (.ref b6), .val (.ref b15), .val (.ref b6), .val (.int (1 : Int32)), .unset, .unset] [(.ref b6), (.ref b6)]))
            obtain ⟨cq56, kq56, qv56a, qv56b, qv56c⟩ := isOf hZ rfl f30
            obtain ⟨_, _, ⟨T56, L56, k56, n56⟩, -, X56, ⟨Lc56, hQ56, l56, y56, z56⟩, st56⟩ := X28.virtualBack hx (y := (⟨"com/example/expire_then_sweep/expirethensweep/model/ContainerStats", "equals", "(Ljava/lang/Object;)Z"⟩ : MethodName)) (z := (⟨"com/example/expire_then_sweep/expirethensweep/model/ContainerStats", "equals", "(Ljava/lang/Object;)Z"⟩ : MethodName)) hown (mvT hZ (hw _ (List.mem_of_getElem? (i := 19) rfl))) (mvT hZ (hw _ (List.mem_of_getElem? (i := 20) rfl))) (notFace_of_selects (args := #[]) (mvT hZ (hw _ (List.mem_of_getElem? (i := 22) rfl)))) (mvT hZ (hw _ (List.mem_of_getElem? (i := 22) rfl))) (mvT hZ (hw _ (List.mem_of_getElem? (i := 21) rfl))) (by decide) (backOf (W := 0) (rm3 l Z a0 hw [] b6 b6 (q1) (q2) (q3) (q4) (q5) (q1) (q2) (q3) (q4) (q5) T28.heap n0 Z28 f31 f32 f33 f34 f35 f30 f31 f32 f33 f34 f35) hZ (hw _ (List.mem_of_getElem? (i := 23) rfl)) (hw _ (List.mem_of_getElem? (i := 2) rfl)) (by decide) (by decide)) qv56a qv56c (g := (mkF m 231 #[.val (.long q1), .second, .val (.long q2), .second, .val (.long q3), .second, .val (.long q4), .second, .val (.long q5), .second, .val (.int p6), .val (.int mk), .val (.int kd), .val (.long mm), .second, .val (.long va0), .second, .val (.long vb0), .second, .val (.long vc0), .second, .val (.long vd0), .second, .val (.long ve0), .second, .val (.ref b6), .val (.ref b15), .val (.ref b6), .val (.int (1 : Int32)), .unset, .unset] [(.ref b6), (.ref b6)])) rfl (by rw [hml]; rfl) (Steps.refl _) (argsL := [(.ref b6)]) (rest := []) (lenOf pd_0_2 rfl) rfl (by show 2 * 0 + _ ≤ _; exact Nat.le_of_eq rfl) (hb hby at_231) (fun _ _ => ⟨rfl, rfl, (by decide : 2 + 0 ≤ _), (by decide : 10 + 0 ≤ _)⟩)
            dsimp only [Pt.U, Pt.locs, Pt.cells, Pt.slots] at X56 l56 y56 z56 st56 hQ56
            subst l56 y56 z56
            obtain ⟨r56, rfl, hr56, N56q, e56⟩ := hQ56
            have N56 := Fr.app N28 N56q
            refine own_tr st56 ?_
            show own_Go p e below K (T56.setTop (mkF m 234 #[.val (.long q1), .second, .val (.long q2), .second, .val (.long q3), .second, .val (.long q4), .second, .val (.long q5), .second, .val (.int p6), .val (.int mk), .val (.int kd), .val (.long mm), .second, .val (.long va0), .second, .val (.long vb0), .second, .val (.long vc0), .second, .val (.long vd0), .second, .val (.long ve0), .second, .val (.ref b6), .val (.ref b15), .val (.ref b6), .val (.int (1 : Int32)), .unset, .unset] [(.int r56)]))
            refine own_st (fun t k => XS.istore X56.here hx rfl (hb hby at_234) rfl (l' := #[.val (.long q1), .second, .val (.long q2), .second, .val (.long q3), .second, .val (.long q4), .second, .val (.long q5), .second, .val (.int p6), .val (.int mk), .val (.int kd), .val (.long mm), .second, .val (.long va0), .second, .val (.long vb0), .second, .val (.long vc0), .second, .val (.long vd0), .second, .val (.long ve0), .second, .val (.ref b6), .val (.ref b15), .val (.ref b6), .val (.int (1 : Int32)), .val (.int r56), .unset]) rfl k) ?_
            show own_Go p e below K (T56.setTop (mkF m 236 #[.val (.long q1), .second, .val (.long q2), .second, .val (.long q3), .second, .val (.long q4), .second, .val (.long q5), .second, .val (.int p6), .val (.int mk), .val (.int kd), .val (.long mm), .second, .val (.long va0), .second, .val (.long vb0), .second, .val (.long vc0), .second, .val (.long vd0), .second, .val (.long ve0), .second, .val (.ref b6), .val (.ref b15), .val (.ref b6), .val (.int (1 : Int32)), .val (.int r56), .unset] []))
            refine own_st (fun t k => XS.iload X56.here hx rfl (hb hby at_236) rfl k) ?_
            show own_Go p e below K (T56.setTop (mkF m 238 #[.val (.long q1), .second, .val (.long q2), .second, .val (.long q3), .second, .val (.long q4), .second, .val (.long q5), .second, .val (.int p6), .val (.int mk), .val (.int kd), .val (.long mm), .second, .val (.long va0), .second, .val (.long vb0), .second, .val (.long vc0), .second, .val (.long vd0), .second, .val (.long ve0), .second, .val (.ref b6), .val (.ref b15), .val (.ref b6), .val (.int (1 : Int32)), .val (.int r56), .unset] [(.int kd)]))
            refine own_st (fun t k => XS.ifYes X56.here hx rfl (pc0 := 238) (pc' := 253) rfl (hb hby at_238) rfl ((if0 _ _).trans (feq (hc165 : ¬ (kd = (0 : Int32)))).2) (by decide) (by decide) k) ?_
            show own_Go p e below K (T56.setTop (mkF m 253 #[.val (.long q1), .second, .val (.long q2), .second, .val (.long q3), .second, .val (.long q4), .second, .val (.long q5), .second, .val (.int p6), .val (.int mk), .val (.int kd), .val (.long mm), .second, .val (.long va0), .second, .val (.long vb0), .second, .val (.long vc0), .second, .val (.long vd0), .second, .val (.long ve0), .second, .val (.ref b6), .val (.ref b15), .val (.ref b6), .val (.int (1 : Int32)), .val (.int r56), .unset] []))
            refine own_st (fun t k => XS.iconst X56.here hx rfl (hb hby at_253) k) ?_
            show own_Go p e below K (T56.setTop (mkF m 254 #[.val (.long q1), .second, .val (.long q2), .second, .val (.long q3), .second, .val (.long q4), .second, .val (.long q5), .second, .val (.int p6), .val (.int mk), .val (.int kd), .val (.long mm), .second, .val (.long va0), .second, .val (.long vb0), .second, .val (.long vc0), .second, .val (.long vd0), .second, .val (.long ve0), .second, .val (.ref b6), .val (.ref b15), .val (.ref b6), .val (.int (1 : Int32)), .val (.int r56), .unset] [(.int (1 : Int32))]))
            refine own_st (fun t k => XS.goto X56.here hx rfl (pc0 := 254) (pc' := 258) rfl (hb hby at_254) (by decide) (by decide) k) ?_
            show own_Go p e below K (T56.setTop (mkF m 258 #[.val (.long q1), .second, .val (.long q2), .second, .val (.long q3), .second, .val (.long q4), .second, .val (.long q5), .second, .val (.int p6), .val (.int mk), .val (.int kd), .val (.long mm), .second, .val (.long va0), .second, .val (.long vb0), .second, .val (.long vc0), .second, .val (.long vd0), .second, .val (.long ve0), .second, .val (.ref b6), .val (.ref b15), .val (.ref b6), .val (.int (1 : Int32)), .val (.int r56), .unset] [(.int (1 : Int32))]))
            refine own_st (fun t k => XS.istore X56.here hx rfl (hb hby at_258) rfl (l' := #[.val (.long q1), .second, .val (.long q2), .second, .val (.long q3), .second, .val (.long q4), .second, .val (.long q5), .second, .val (.int p6), .val (.int mk), .val (.int kd), .val (.long mm), .second, .val (.long va0), .second, .val (.long vb0), .second, .val (.long vc0), .second, .val (.long vd0), .second, .val (.long ve0), .second, .val (.ref b6), .val (.ref b15), .val (.ref b6), .val (.int (1 : Int32)), .val (.int r56), .val (.int (1 : Int32))]) rfl k) ?_
            show own_Go p e below K (T56.setTop (mkF m 260 #[.val (.long q1), .second, .val (.long q2), .second, .val (.long q3), .second, .val (.long q4), .second, .val (.long q5), .second, .val (.int p6), .val (.int mk), .val (.int kd), .val (.long mm), .second, .val (.long va0), .second, .val (.long vb0), .second, .val (.long vc0), .second, .val (.long vd0), .second, .val (.long ve0), .second, .val (.ref b6), .val (.ref b15), .val (.ref b6), .val (.int (1 : Int32)), .val (.int r56), .val (.int (1 : Int32))] []))
            refine own_st (fun t k => XS.iload X56.here hx rfl (hb hby at_260) rfl k) ?_
            show own_Go p e below K (T56.setTop (mkF m 262 #[.val (.long q1), .second, .val (.long q2), .second, .val (.long q3), .second, .val (.long q4), .second, .val (.long q5), .second, .val (.int p6), .val (.int mk), .val (.int kd), .val (.long mm), .second, .val (.long va0), .second, .val (.long vb0), .second, .val (.long vc0), .second, .val (.long vd0), .second, .val (.long ve0), .second, .val (.ref b6), .val (.ref b15), .val (.ref b6), .val (.int (1 : Int32)), .val (.int r56), .val (.int (1 : Int32))] [(.int r56)]))
            refine own_st (fun t k => XS.iload X56.here hx rfl (hb hby at_262) rfl k) ?_
            show own_Go p e below K (T56.setTop (mkF m 264 #[.val (.long q1), .second, .val (.long q2), .second, .val (.long q3), .second, .val (.long q4), .second, .val (.long q5), .second, .val (.int p6), .val (.int mk), .val (.int kd), .val (.long mm), .second, .val (.long va0), .second, .val (.long vb0), .second, .val (.long vc0), .second, .val (.long vd0), .second, .val (.long ve0), .second, .val (.ref b6), .val (.ref b15), .val (.ref b6), .val (.int (1 : Int32)), .val (.int r56), .val (.int (1 : Int32))] [(.int (1 : Int32)), (.int r56)]))
            refine own_st (fun t k => XS.icmpNo X56.here hx rfl (hb hby at_264) rfl (teq (own_B.one hr56 ⟨rfl, rfl, rfl, rfl, rfl⟩ : r56 = (1 : Int32))).2 k) ?_
            show own_Go p e below K (T56.setTop (mkF m 267 #[.val (.long q1), .second, .val (.long q2), .second, .val (.long q3), .second, .val (.long q4), .second, .val (.long q5), .second, .val (.int p6), .val (.int mk), .val (.int kd), .val (.long mm), .second, .val (.long va0), .second, .val (.long vb0), .second, .val (.long vc0), .second, .val (.long vd0), .second, .val (.long ve0), .second, .val (.ref b6), .val (.ref b15), .val (.ref b6), .val (.int (1 : Int32)), .val (.int r56), .val (.int (1 : Int32))] []))
            refine own_st (fun t k => XS.iload X56.here hx rfl (hb hby at_267) rfl k) ?_
            show own_Go p e below K (T56.setTop (mkF m 269 #[.val (.long q1), .second, .val (.long q2), .second, .val (.long q3), .second, .val (.long q4), .second, .val (.long q5), .second, .val (.int p6), .val (.int mk), .val (.int kd), .val (.long mm), .second, .val (.long va0), .second, .val (.long vb0), .second, .val (.long vc0), .second, .val (.long vd0), .second, .val (.long ve0), .second, .val (.ref b6), .val (.ref b15), .val (.ref b6), .val (.int (1 : Int32)), .val (.int r56), .val (.int (1 : Int32))] [(.int (1 : Int32))]))
            refine own_st (fun t k => XS.ifNo X56.here hx rfl (hb hby at_269) rfl ((if0 _ _).trans (feq (by decide : ¬ ((1 : Int32) = (0 : Int32)))).1) k) ?_
            show own_Go p e below K (T56.setTop (mkF m 272 #[.val (.long q1), .second, .val (.long q2), .second, .val (.long q3), .second, .val (.long q4), .second, .val (.long q5), .second, .val (.int p6), .val (.int mk), .val (.int kd), .val (.long mm), .second, .val (.long va0), .second, .val (.long vb0), .second, .val (.long vc0), .second, .val (.long vd0), .second, .val (.long ve0), .second, .val (.ref b6), .val (.ref b15), .val (.ref b6), .val (.int (1 : Int32)), .val (.int r56), .val (.int (1 : Int32))] []))
            refine own_st (fun t k => XS.iconst X56.here hx rfl (hb hby at_272) k) ?_
            show own_Go p e below K (T56.setTop (mkF m 273 #[.val (.long q1), .second, .val (.long q2), .second, .val (.long q3), .second, .val (.long q4), .second, .val (.long q5), .second, .val (.int p6), .val (.int mk), .val (.int kd), .val (.long mm), .second, .val (.long va0), .second, .val (.long vb0), .second, .val (.long vc0), .second, .val (.long vd0), .second, .val (.long ve0), .second, .val (.ref b6), .val (.ref b15), .val (.ref b6), .val (.int (1 : Int32)), .val (.int r56), .val (.int (1 : Int32))] [(.int (1 : Int32))]))
            refine own_st (fun t k => XS.goto X56.here hx rfl (pc0 := 273) (pc' := 277) rfl (hb hby at_273) (by decide) (by decide) k) ?_
            show own_Go p e below K (T56.setTop (mkF m 277 #[.val (.long q1), .second, .val (.long q2), .second, .val (.long q3), .second, .val (.long q4), .second, .val (.long q5), .second, .val (.int p6), .val (.int mk), .val (.int kd), .val (.long mm), .second, .val (.long va0), .second, .val (.long vb0), .second, .val (.long vc0), .second, .val (.long vd0), .second, .val (.long ve0), .second, .val (.ref b6), .val (.ref b15), .val (.ref b6), .val (.int (1 : Int32)), .val (.int r56), .val (.int (1 : Int32))] [(.int (1 : Int32))]))
            obtain ⟨fs, hr, hrun, hended, hW, hsame⟩ := X56.leave (v := some (.int (nar .boolean (1 : Int32)))) (fun h => by rw [Bd.returns] at h; cases h)
            refine ⟨_, retN X56 hx (t := .boolean) Bd.returns (by simp) (hb hby at_277) hr, fin _ _ _ hrun hended ?_ ⟨⟨_, rfl⟩, hW, hsame.mono (by decide) (by decide)⟩⟩
            show Q0 Z q1 q2 q3 q4 q5 p6 xc h0 n0 _ T56.heap _
            rw [e56]
            exact ⟨rfl, N56⟩
          refine own_st (fun t k => XS.iload X4.here hx rfl (hb hby at_107) rfl k) ?_
          show own_Go p e below K (T4.setTop (mkF m 109 #[.val (.long q1), .second, .val (.long q2), .second, .val (.long q3), .second, .val (.long q4), .second, .val (.long q5), .second, .val (.int p6), .val (.int mk), .val (.int kd), .val (.long mm), .second, .val (.long va0), .second, .val (.long vb0), .second, .val (.long vc0), .second, .val (.long vd0), .second, .unset, .unset, .unset, .unset, .unset, .unset, .unset, .unset] [(.int mk)]))
          refine own_st (fun t k => XS.bipush X4.here hx rfl (hb hby at_109) k) ?_
          show own_Go p e below K (T4.setTop (mkF m 111 #[.val (.long q1), .second, .val (.long q2), .second, .val (.long q3), .second, .val (.long q4), .second, .val (.long q5), .second, .val (.int p6), .val (.int mk), .val (.int kd), .val (.long mm), .second, .val (.long va0), .second, .val (.long vb0), .second, .val (.long vc0), .second, .val (.long vd0), .second, .unset, .unset, .unset, .unset, .unset, .unset, .unset, .unset] [(.int (16 : Int32)), (.int mk)]))
          refine own_st (fun t k => XS.iand X4.here hx rfl (hb hby at_111) rfl k) ?_
          show own_Go p e below K (T4.setTop (mkF m 112 #[.val (.long q1), .second, .val (.long q2), .second, .val (.long q3), .second, .val (.long q4), .second, .val (.long q5), .second, .val (.int p6), .val (.int mk), .val (.int kd), .val (.long mm), .second, .val (.long va0), .second, .val (.long vb0), .second, .val (.long vc0), .second, .val (.long vd0), .second, .unset, .unset, .unset, .unset, .unset, .unset, .unset, .unset] [(.int (mk &&& (16 : Int32)))]))
          by_cases hc112 : (mk &&& (16 : Int32)) = (0 : Int32)
          · refine own_st (fun t k => XS.ifYes X4.here hx rfl (pc0 := 112) (pc' := 123) rfl (hb hby at_112) rfl ((if0 _ _).trans (teq hc112).1) (by decide) (by decide) k) ?_
            show own_Go p e below K (T4.setTop (mkF m 123 #[.val (.long q1), .second, .val (.long q2), .second, .val (.long q3), .second, .val (.long q4), .second, .val (.long q5), .second, .val (.int p6), .val (.int mk), .val (.int kd), .val (.long mm), .second, .val (.long va0), .second, .val (.long vb0), .second, .val (.long vc0), .second, .val (.long vd0), .second, .unset, .unset, .unset, .unset, .unset, .unset, .unset, .unset] []))
            refine own_st (fun t k => XS.lload X4.here hx rfl (hb hby at_123) rfl k) ?_
            show own_Go p e below K (T4.setTop (mkF m 125 #[.val (.long q1), .second, .val (.long q2), .second, .val (.long q3), .second, .val (.long q4), .second, .val (.long q5), .second, .val (.int p6), .val (.int mk), .val (.int kd), .val (.long mm), .second, .val (.long va0), .second, .val (.long vb0), .second, .val (.long vc0), .second, .val (.long vd0), .second, .unset, .unset, .unset, .unset, .unset, .unset, .unset, .unset] [(.long q5)]))
            exact J125 T4 _ X4 e4 N4 (q5) ⟨fun _ => hc112, fun _ => rfl⟩
          refine own_st (fun t k => XS.ifNo X4.here hx rfl (hb hby at_112) rfl ((if0 _ _).trans (feq hc112).1) k) ?_
          show own_Go p e below K (T4.setTop (mkF m 115 #[.val (.long q1), .second, .val (.long q2), .second, .val (.long q3), .second, .val (.long q4), .second, .val (.long q5), .second, .val (.int p6), .val (.int mk), .val (.int kd), .val (.long mm), .second, .val (.long va0), .second, .val (.long vb0), .second, .val (.long vc0), .second, .val (.long vd0), .second, .unset, .unset, .unset, .unset, .unset, .unset, .unset, .unset] []))
          refine own_st (fun t k => XS.lload X4.here hx rfl (hb hby at_115) rfl k) ?_
          show own_Go p e below K (T4.setTop (mkF m 117 #[.val (.long q1), .second, .val (.long q2), .second, .val (.long q3), .second, .val (.long q4), .second, .val (.long q5), .second, .val (.int p6), .val (.int mk), .val (.int kd), .val (.long mm), .second, .val (.long va0), .second, .val (.long vb0), .second, .val (.long vc0), .second, .val (.long vd0), .second, .unset, .unset, .unset, .unset, .unset, .unset, .unset, .unset] [(.long q5)]))
          refine own_st (fun t k => XS.lload X4.here hx rfl (hb hby at_117) rfl k) ?_
          show own_Go p e below K (T4.setTop (mkF m 119 #[.val (.long q1), .second, .val (.long q2), .second, .val (.long q3), .second, .val (.long q4), .second, .val (.long q5), .second, .val (.int p6), .val (.int mk), .val (.int kd), .val (.long mm), .second, .val (.long va0), .second, .val (.long vb0), .second, .val (.long vc0), .second, .val (.long vd0), .second, .unset, .unset, .unset, .unset, .unset, .unset, .unset, .unset] [(.long mm), (.long q5)]))
          refine own_st (fun t k => XS.lxor X4.here hx rfl (hb hby at_119) rfl k) ?_
          show own_Go p e below K (T4.setTop (mkF m 120 #[.val (.long q1), .second, .val (.long q2), .second, .val (.long q3), .second, .val (.long q4), .second, .val (.long q5), .second, .val (.int p6), .val (.int mk), .val (.int kd), .val (.long mm), .second, .val (.long va0), .second, .val (.long vb0), .second, .val (.long vc0), .second, .val (.long vd0), .second, .unset, .unset, .unset, .unset, .unset, .unset, .unset, .unset] [(.long (q5 ^^^ mm))]))
          refine own_st (fun t k => XS.goto X4.here hx rfl (pc0 := 120) (pc' := 125) rfl (hb hby at_120) (by decide) (by decide) k) ?_
          show own_Go p e below K (T4.setTop (mkF m 125 #[.val (.long q1), .second, .val (.long q2), .second, .val (.long q3), .second, .val (.long q4), .second, .val (.long q5), .second, .val (.int p6), .val (.int mk), .val (.int kd), .val (.long mm), .second, .val (.long va0), .second, .val (.long vb0), .second, .val (.long vc0), .second, .val (.long vd0), .second, .unset, .unset, .unset, .unset, .unset, .unset, .unset, .unset] [(.long (q5 ^^^ mm))]))
          exact J125 T4 _ X4 e4 N4 ((q5 ^^^ mm)) ⟨fun h => absurd h (own_xne hm0), fun h => absurd h hc112⟩
        refine own_st (fun t k => XS.iload X3.here hx rfl (hb hby at_87) rfl k) ?_
        show own_Go p e below K (T3.setTop (mkF m 89 #[.val (.long q1), .second, .val (.long q2), .second, .val (.long q3), .second, .val (.long q4), .second, .val (.long q5), .second, .val (.int p6), .val (.int mk), .val (.int kd), .val (.long mm), .second, .val (.long va0), .second, .val (.long vb0), .second, .val (.long vc0), .second, .unset, .unset, .unset, .unset, .unset, .unset, .unset, .unset, .unset, .unset] [(.int mk)]))
        refine own_st (fun t k => XS.bipush X3.here hx rfl (hb hby at_89) k) ?_
        show own_Go p e below K (T3.setTop (mkF m 91 #[.val (.long q1), .second, .val (.long q2), .second, .val (.long q3), .second, .val (.long q4), .second, .val (.long q5), .second, .val (.int p6), .val (.int mk), .val (.int kd), .val (.long mm), .second, .val (.long va0), .second, .val (.long vb0), .second, .val (.long vc0), .second, .unset, .unset, .unset, .unset, .unset, .unset, .unset, .unset, .unset, .unset] [(.int (8 : Int32)), (.int mk)]))
        refine own_st (fun t k => XS.iand X3.here hx rfl (hb hby at_91) rfl k) ?_
        show own_Go p e below K (T3.setTop (mkF m 92 #[.val (.long q1), .second, .val (.long q2), .second, .val (.long q3), .second, .val (.long q4), .second, .val (.long q5), .second, .val (.int p6), .val (.int mk), .val (.int kd), .val (.long mm), .second, .val (.long va0), .second, .val (.long vb0), .second, .val (.long vc0), .second, .unset, .unset, .unset, .unset, .unset, .unset, .unset, .unset, .unset, .unset] [(.int (mk &&& (8 : Int32)))]))
        by_cases hc92 : (mk &&& (8 : Int32)) = (0 : Int32)
        · refine own_st (fun t k => XS.ifYes X3.here hx rfl (pc0 := 92) (pc' := 103) rfl (hb hby at_92) rfl ((if0 _ _).trans (teq hc92).1) (by decide) (by decide) k) ?_
          show own_Go p e below K (T3.setTop (mkF m 103 #[.val (.long q1), .second, .val (.long q2), .second, .val (.long q3), .second, .val (.long q4), .second, .val (.long q5), .second, .val (.int p6), .val (.int mk), .val (.int kd), .val (.long mm), .second, .val (.long va0), .second, .val (.long vb0), .second, .val (.long vc0), .second, .unset, .unset, .unset, .unset, .unset, .unset, .unset, .unset, .unset, .unset] []))
          refine own_st (fun t k => XS.lload X3.here hx rfl (hb hby at_103) rfl k) ?_
          show own_Go p e below K (T3.setTop (mkF m 105 #[.val (.long q1), .second, .val (.long q2), .second, .val (.long q3), .second, .val (.long q4), .second, .val (.long q5), .second, .val (.int p6), .val (.int mk), .val (.int kd), .val (.long mm), .second, .val (.long va0), .second, .val (.long vb0), .second, .val (.long vc0), .second, .unset, .unset, .unset, .unset, .unset, .unset, .unset, .unset, .unset, .unset] [(.long q4)]))
          exact J105 T3 _ X3 e3 N3 (q4) ⟨fun _ => hc92, fun _ => rfl⟩
        refine own_st (fun t k => XS.ifNo X3.here hx rfl (hb hby at_92) rfl ((if0 _ _).trans (feq hc92).1) k) ?_
        show own_Go p e below K (T3.setTop (mkF m 95 #[.val (.long q1), .second, .val (.long q2), .second, .val (.long q3), .second, .val (.long q4), .second, .val (.long q5), .second, .val (.int p6), .val (.int mk), .val (.int kd), .val (.long mm), .second, .val (.long va0), .second, .val (.long vb0), .second, .val (.long vc0), .second, .unset, .unset, .unset, .unset, .unset, .unset, .unset, .unset, .unset, .unset] []))
        refine own_st (fun t k => XS.lload X3.here hx rfl (hb hby at_95) rfl k) ?_
        show own_Go p e below K (T3.setTop (mkF m 97 #[.val (.long q1), .second, .val (.long q2), .second, .val (.long q3), .second, .val (.long q4), .second, .val (.long q5), .second, .val (.int p6), .val (.int mk), .val (.int kd), .val (.long mm), .second, .val (.long va0), .second, .val (.long vb0), .second, .val (.long vc0), .second, .unset, .unset, .unset, .unset, .unset, .unset, .unset, .unset, .unset, .unset] [(.long q4)]))
        refine own_st (fun t k => XS.lload X3.here hx rfl (hb hby at_97) rfl k) ?_
        show own_Go p e below K (T3.setTop (mkF m 99 #[.val (.long q1), .second, .val (.long q2), .second, .val (.long q3), .second, .val (.long q4), .second, .val (.long q5), .second, .val (.int p6), .val (.int mk), .val (.int kd), .val (.long mm), .second, .val (.long va0), .second, .val (.long vb0), .second, .val (.long vc0), .second, .unset, .unset, .unset, .unset, .unset, .unset, .unset, .unset, .unset, .unset] [(.long mm), (.long q4)]))
        refine own_st (fun t k => XS.lxor X3.here hx rfl (hb hby at_99) rfl k) ?_
        show own_Go p e below K (T3.setTop (mkF m 100 #[.val (.long q1), .second, .val (.long q2), .second, .val (.long q3), .second, .val (.long q4), .second, .val (.long q5), .second, .val (.int p6), .val (.int mk), .val (.int kd), .val (.long mm), .second, .val (.long va0), .second, .val (.long vb0), .second, .val (.long vc0), .second, .unset, .unset, .unset, .unset, .unset, .unset, .unset, .unset, .unset, .unset] [(.long (q4 ^^^ mm))]))
        refine own_st (fun t k => XS.goto X3.here hx rfl (pc0 := 100) (pc' := 105) rfl (hb hby at_100) (by decide) (by decide) k) ?_
        show own_Go p e below K (T3.setTop (mkF m 105 #[.val (.long q1), .second, .val (.long q2), .second, .val (.long q3), .second, .val (.long q4), .second, .val (.long q5), .second, .val (.int p6), .val (.int mk), .val (.int kd), .val (.long mm), .second, .val (.long va0), .second, .val (.long vb0), .second, .val (.long vc0), .second, .unset, .unset, .unset, .unset, .unset, .unset, .unset, .unset, .unset, .unset] [(.long (q4 ^^^ mm))]))
        exact J105 T3 _ X3 e3 N3 ((q4 ^^^ mm)) ⟨fun h => absurd h (own_xne hm0), fun h => absurd h hc92⟩
      refine own_st (fun t k => XS.iload X2.here hx rfl (hb hby at_68) rfl k) ?_
      show own_Go p e below K (T2.setTop (mkF m 70 #[.val (.long q1), .second, .val (.long q2), .second, .val (.long q3), .second, .val (.long q4), .second, .val (.long q5), .second, .val (.int p6), .val (.int mk), .val (.int kd), .val (.long mm), .second, .val (.long va0), .second, .val (.long vb0), .second, .unset, .unset, .unset, .unset, .unset, .unset, .unset, .unset, .unset, .unset, .unset, .unset] [(.int mk)]))
      refine own_st (fun t k => XS.iconst X2.here hx rfl (hb hby at_70) k) ?_
      show own_Go p e below K (T2.setTop (mkF m 71 #[.val (.long q1), .second, .val (.long q2), .second, .val (.long q3), .second, .val (.long q4), .second, .val (.long q5), .second, .val (.int p6), .val (.int mk), .val (.int kd), .val (.long mm), .second, .val (.long va0), .second, .val (.long vb0), .second, .unset, .unset, .unset, .unset, .unset, .unset, .unset, .unset, .unset, .unset, .unset, .unset] [(.int (4 : Int32)), (.int mk)]))
      refine own_st (fun t k => XS.iand X2.here hx rfl (hb hby at_71) rfl k) ?_
      show own_Go p e below K (T2.setTop (mkF m 72 #[.val (.long q1), .second, .val (.long q2), .second, .val (.long q3), .second, .val (.long q4), .second, .val (.long q5), .second, .val (.int p6), .val (.int mk), .val (.int kd), .val (.long mm), .second, .val (.long va0), .second, .val (.long vb0), .second, .unset, .unset, .unset, .unset, .unset, .unset, .unset, .unset, .unset, .unset, .unset, .unset] [(.int (mk &&& (4 : Int32)))]))
      by_cases hc72 : (mk &&& (4 : Int32)) = (0 : Int32)
      · refine own_st (fun t k => XS.ifYes X2.here hx rfl (pc0 := 72) (pc' := 83) rfl (hb hby at_72) rfl ((if0 _ _).trans (teq hc72).1) (by decide) (by decide) k) ?_
        show own_Go p e below K (T2.setTop (mkF m 83 #[.val (.long q1), .second, .val (.long q2), .second, .val (.long q3), .second, .val (.long q4), .second, .val (.long q5), .second, .val (.int p6), .val (.int mk), .val (.int kd), .val (.long mm), .second, .val (.long va0), .second, .val (.long vb0), .second, .unset, .unset, .unset, .unset, .unset, .unset, .unset, .unset, .unset, .unset, .unset, .unset] []))
        refine own_st (fun t k => XS.lload X2.here hx rfl (hb hby at_83) rfl k) ?_
        show own_Go p e below K (T2.setTop (mkF m 85 #[.val (.long q1), .second, .val (.long q2), .second, .val (.long q3), .second, .val (.long q4), .second, .val (.long q5), .second, .val (.int p6), .val (.int mk), .val (.int kd), .val (.long mm), .second, .val (.long va0), .second, .val (.long vb0), .second, .unset, .unset, .unset, .unset, .unset, .unset, .unset, .unset, .unset, .unset, .unset, .unset] [(.long q3)]))
        exact J85 T2 _ X2 e2 N2 (q3) ⟨fun _ => hc72, fun _ => rfl⟩
      refine own_st (fun t k => XS.ifNo X2.here hx rfl (hb hby at_72) rfl ((if0 _ _).trans (feq hc72).1) k) ?_
      show own_Go p e below K (T2.setTop (mkF m 75 #[.val (.long q1), .second, .val (.long q2), .second, .val (.long q3), .second, .val (.long q4), .second, .val (.long q5), .second, .val (.int p6), .val (.int mk), .val (.int kd), .val (.long mm), .second, .val (.long va0), .second, .val (.long vb0), .second, .unset, .unset, .unset, .unset, .unset, .unset, .unset, .unset, .unset, .unset, .unset, .unset] []))
      refine own_st (fun t k => XS.lload X2.here hx rfl (hb hby at_75) rfl k) ?_
      show own_Go p e below K (T2.setTop (mkF m 77 #[.val (.long q1), .second, .val (.long q2), .second, .val (.long q3), .second, .val (.long q4), .second, .val (.long q5), .second, .val (.int p6), .val (.int mk), .val (.int kd), .val (.long mm), .second, .val (.long va0), .second, .val (.long vb0), .second, .unset, .unset, .unset, .unset, .unset, .unset, .unset, .unset, .unset, .unset, .unset, .unset] [(.long q3)]))
      refine own_st (fun t k => XS.lload X2.here hx rfl (hb hby at_77) rfl k) ?_
      show own_Go p e below K (T2.setTop (mkF m 79 #[.val (.long q1), .second, .val (.long q2), .second, .val (.long q3), .second, .val (.long q4), .second, .val (.long q5), .second, .val (.int p6), .val (.int mk), .val (.int kd), .val (.long mm), .second, .val (.long va0), .second, .val (.long vb0), .second, .unset, .unset, .unset, .unset, .unset, .unset, .unset, .unset, .unset, .unset, .unset, .unset] [(.long mm), (.long q3)]))
      refine own_st (fun t k => XS.lxor X2.here hx rfl (hb hby at_79) rfl k) ?_
      show own_Go p e below K (T2.setTop (mkF m 80 #[.val (.long q1), .second, .val (.long q2), .second, .val (.long q3), .second, .val (.long q4), .second, .val (.long q5), .second, .val (.int p6), .val (.int mk), .val (.int kd), .val (.long mm), .second, .val (.long va0), .second, .val (.long vb0), .second, .unset, .unset, .unset, .unset, .unset, .unset, .unset, .unset, .unset, .unset, .unset, .unset] [(.long (q3 ^^^ mm))]))
      refine own_st (fun t k => XS.goto X2.here hx rfl (pc0 := 80) (pc' := 85) rfl (hb hby at_80) (by decide) (by decide) k) ?_
      show own_Go p e below K (T2.setTop (mkF m 85 #[.val (.long q1), .second, .val (.long q2), .second, .val (.long q3), .second, .val (.long q4), .second, .val (.long q5), .second, .val (.int p6), .val (.int mk), .val (.int kd), .val (.long mm), .second, .val (.long va0), .second, .val (.long vb0), .second, .unset, .unset, .unset, .unset, .unset, .unset, .unset, .unset, .unset, .unset, .unset, .unset] [(.long (q3 ^^^ mm))]))
      exact J85 T2 _ X2 e2 N2 ((q3 ^^^ mm)) ⟨fun h => absurd h (own_xne hm0), fun h => absurd h hc72⟩
    refine own_st (fun t k => XS.iload X1.here hx rfl (hb hby at_51) rfl k) ?_
    show own_Go p e below K (T1.setTop (mkF m 53 #[.val (.long q1), .second, .val (.long q2), .second, .val (.long q3), .second, .val (.long q4), .second, .val (.long q5), .second, .val (.int p6), .val (.int mk), .val (.int kd), .val (.long mm), .second, .val (.long va0), .second, .unset, .unset, .unset, .unset, .unset, .unset, .unset, .unset, .unset, .unset, .unset, .unset, .unset, .unset] [(.int mk)]))
    refine own_st (fun t k => XS.iconst X1.here hx rfl (hb hby at_53) k) ?_
    show own_Go p e below K (T1.setTop (mkF m 54 #[.val (.long q1), .second, .val (.long q2), .second, .val (.long q3), .second, .val (.long q4), .second, .val (.long q5), .second, .val (.int p6), .val (.int mk), .val (.int kd), .val (.long mm), .second, .val (.long va0), .second, .unset, .unset, .unset, .unset, .unset, .unset, .unset, .unset, .unset, .unset, .unset, .unset, .unset, .unset] [(.int (2 : Int32)), (.int mk)]))
    refine own_st (fun t k => XS.iand X1.here hx rfl (hb hby at_54) rfl k) ?_
    show own_Go p e below K (T1.setTop (mkF m 55 #[.val (.long q1), .second, .val (.long q2), .second, .val (.long q3), .second, .val (.long q4), .second, .val (.long q5), .second, .val (.int p6), .val (.int mk), .val (.int kd), .val (.long mm), .second, .val (.long va0), .second, .unset, .unset, .unset, .unset, .unset, .unset, .unset, .unset, .unset, .unset, .unset, .unset, .unset, .unset] [(.int (mk &&& (2 : Int32)))]))
    by_cases hc55 : (mk &&& (2 : Int32)) = (0 : Int32)
    · refine own_st (fun t k => XS.ifYes X1.here hx rfl (pc0 := 55) (pc' := 65) rfl (hb hby at_55) rfl ((if0 _ _).trans (teq hc55).1) (by decide) (by decide) k) ?_
      show own_Go p e below K (T1.setTop (mkF m 65 #[.val (.long q1), .second, .val (.long q2), .second, .val (.long q3), .second, .val (.long q4), .second, .val (.long q5), .second, .val (.int p6), .val (.int mk), .val (.int kd), .val (.long mm), .second, .val (.long va0), .second, .unset, .unset, .unset, .unset, .unset, .unset, .unset, .unset, .unset, .unset, .unset, .unset, .unset, .unset] []))
      refine own_st (fun t k => XS.lloadN X1.here hx rfl (hb hby at_65) rfl k) ?_
      show own_Go p e below K (T1.setTop (mkF m 66 #[.val (.long q1), .second, .val (.long q2), .second, .val (.long q3), .second, .val (.long q4), .second, .val (.long q5), .second, .val (.int p6), .val (.int mk), .val (.int kd), .val (.long mm), .second, .val (.long va0), .second, .unset, .unset, .unset, .unset, .unset, .unset, .unset, .unset, .unset, .unset, .unset, .unset, .unset, .unset] [(.long q2)]))
      exact J66 T1 _ X1 e1 N1 (q2) ⟨fun _ => hc55, fun _ => rfl⟩
    refine own_st (fun t k => XS.ifNo X1.here hx rfl (hb hby at_55) rfl ((if0 _ _).trans (feq hc55).1) k) ?_
    show own_Go p e below K (T1.setTop (mkF m 58 #[.val (.long q1), .second, .val (.long q2), .second, .val (.long q3), .second, .val (.long q4), .second, .val (.long q5), .second, .val (.int p6), .val (.int mk), .val (.int kd), .val (.long mm), .second, .val (.long va0), .second, .unset, .unset, .unset, .unset, .unset, .unset, .unset, .unset, .unset, .unset, .unset, .unset, .unset, .unset] []))
    refine own_st (fun t k => XS.lloadN X1.here hx rfl (hb hby at_58) rfl k) ?_
    show own_Go p e below K (T1.setTop (mkF m 59 #[.val (.long q1), .second, .val (.long q2), .second, .val (.long q3), .second, .val (.long q4), .second, .val (.long q5), .second, .val (.int p6), .val (.int mk), .val (.int kd), .val (.long mm), .second, .val (.long va0), .second, .unset, .unset, .unset, .unset, .unset, .unset, .unset, .unset, .unset, .unset, .unset, .unset, .unset, .unset] [(.long q2)]))
    refine own_st (fun t k => XS.lload X1.here hx rfl (hb hby at_59) rfl k) ?_
    show own_Go p e below K (T1.setTop (mkF m 61 #[.val (.long q1), .second, .val (.long q2), .second, .val (.long q3), .second, .val (.long q4), .second, .val (.long q5), .second, .val (.int p6), .val (.int mk), .val (.int kd), .val (.long mm), .second, .val (.long va0), .second, .unset, .unset, .unset, .unset, .unset, .unset, .unset, .unset, .unset, .unset, .unset, .unset, .unset, .unset] [(.long mm), (.long q2)]))
    refine own_st (fun t k => XS.lxor X1.here hx rfl (hb hby at_61) rfl k) ?_
    show own_Go p e below K (T1.setTop (mkF m 62 #[.val (.long q1), .second, .val (.long q2), .second, .val (.long q3), .second, .val (.long q4), .second, .val (.long q5), .second, .val (.int p6), .val (.int mk), .val (.int kd), .val (.long mm), .second, .val (.long va0), .second, .unset, .unset, .unset, .unset, .unset, .unset, .unset, .unset, .unset, .unset, .unset, .unset, .unset, .unset] [(.long (q2 ^^^ mm))]))
    refine own_st (fun t k => XS.goto X1.here hx rfl (pc0 := 62) (pc' := 66) rfl (hb hby at_62) (by decide) (by decide) k) ?_
    show own_Go p e below K (T1.setTop (mkF m 66 #[.val (.long q1), .second, .val (.long q2), .second, .val (.long q3), .second, .val (.long q4), .second, .val (.long q5), .second, .val (.int p6), .val (.int mk), .val (.int kd), .val (.long mm), .second, .val (.long va0), .second, .unset, .unset, .unset, .unset, .unset, .unset, .unset, .unset, .unset, .unset, .unset, .unset, .unset, .unset] [(.long (q2 ^^^ mm))]))
    exact J66 T1 _ X1 e1 N1 ((q2 ^^^ mm)) ⟨fun h => absurd h (own_xne hm0), fun h => absurd h hc55⟩
  refine own_st (fun t k => XS.iload X0.here hx rfl (hb hby at_34) rfl k) ?_
  show own_Go p e below K (s₁.setTop (mkF m 36 #[.val (.long q1), .second, .val (.long q2), .second, .val (.long q3), .second, .val (.long q4), .second, .val (.long q5), .second, .val (.int p6), .val (.int mk), .val (.int kd), .val (.long mm), .second, .unset, .unset, .unset, .unset, .unset, .unset, .unset, .unset, .unset, .unset, .unset, .unset, .unset, .unset, .unset, .unset] [(.int mk)]))
  refine own_st (fun t k => XS.iconst X0.here hx rfl (hb hby at_36) k) ?_
  show own_Go p e below K (s₁.setTop (mkF m 37 #[.val (.long q1), .second, .val (.long q2), .second, .val (.long q3), .second, .val (.long q4), .second, .val (.long q5), .second, .val (.int p6), .val (.int mk), .val (.int kd), .val (.long mm), .second, .unset, .unset, .unset, .unset, .unset, .unset, .unset, .unset, .unset, .unset, .unset, .unset, .unset, .unset, .unset, .unset] [(.int (1 : Int32)), (.int mk)]))
  refine own_st (fun t k => XS.iand X0.here hx rfl (hb hby at_37) rfl k) ?_
  show own_Go p e below K (s₁.setTop (mkF m 38 #[.val (.long q1), .second, .val (.long q2), .second, .val (.long q3), .second, .val (.long q4), .second, .val (.long q5), .second, .val (.int p6), .val (.int mk), .val (.int kd), .val (.long mm), .second, .unset, .unset, .unset, .unset, .unset, .unset, .unset, .unset, .unset, .unset, .unset, .unset, .unset, .unset, .unset, .unset] [(.int (mk &&& (1 : Int32)))]))
  by_cases hc38 : (mk &&& (1 : Int32)) = (0 : Int32)
  · refine own_st (fun t k => XS.ifYes X0.here hx rfl (pc0 := 38) (pc' := 48) rfl (hb hby at_38) rfl ((if0 _ _).trans (teq hc38).1) (by decide) (by decide) k) ?_
    show own_Go p e below K (s₁.setTop (mkF m 48 #[.val (.long q1), .second, .val (.long q2), .second, .val (.long q3), .second, .val (.long q4), .second, .val (.long q5), .second, .val (.int p6), .val (.int mk), .val (.int kd), .val (.long mm), .second, .unset, .unset, .unset, .unset, .unset, .unset, .unset, .unset, .unset, .unset, .unset, .unset, .unset, .unset, .unset, .unset] []))
    refine own_st (fun t k => XS.lloadN X0.here hx rfl (hb hby at_48) rfl k) ?_
    show own_Go p e below K (s₁.setTop (mkF m 49 #[.val (.long q1), .second, .val (.long q2), .second, .val (.long q3), .second, .val (.long q4), .second, .val (.long q5), .second, .val (.int p6), .val (.int mk), .val (.int kd), .val (.long mm), .second, .unset, .unset, .unset, .unset, .unset, .unset, .unset, .unset, .unset, .unset, .unset, .unset, .unset, .unset, .unset, .unset] [(.long q1)]))
    exact J49 s₁ _ X0 e0 N0 (q1) ⟨fun _ => hc38, fun _ => rfl⟩
  refine own_st (fun t k => XS.ifNo X0.here hx rfl (hb hby at_38) rfl ((if0 _ _).trans (feq hc38).1) k) ?_
  show own_Go p e below K (s₁.setTop (mkF m 41 #[.val (.long q1), .second, .val (.long q2), .second, .val (.long q3), .second, .val (.long q4), .second, .val (.long q5), .second, .val (.int p6), .val (.int mk), .val (.int kd), .val (.long mm), .second, .unset, .unset, .unset, .unset, .unset, .unset, .unset, .unset, .unset, .unset, .unset, .unset, .unset, .unset, .unset, .unset] []))
  refine own_st (fun t k => XS.lloadN X0.here hx rfl (hb hby at_41) rfl k) ?_
  show own_Go p e below K (s₁.setTop (mkF m 42 #[.val (.long q1), .second, .val (.long q2), .second, .val (.long q3), .second, .val (.long q4), .second, .val (.long q5), .second, .val (.int p6), .val (.int mk), .val (.int kd), .val (.long mm), .second, .unset, .unset, .unset, .unset, .unset, .unset, .unset, .unset, .unset, .unset, .unset, .unset, .unset, .unset, .unset, .unset] [(.long q1)]))
  refine own_st (fun t k => XS.lload X0.here hx rfl (hb hby at_42) rfl k) ?_
  show own_Go p e below K (s₁.setTop (mkF m 44 #[.val (.long q1), .second, .val (.long q2), .second, .val (.long q3), .second, .val (.long q4), .second, .val (.long q5), .second, .val (.int p6), .val (.int mk), .val (.int kd), .val (.long mm), .second, .unset, .unset, .unset, .unset, .unset, .unset, .unset, .unset, .unset, .unset, .unset, .unset, .unset, .unset, .unset, .unset] [(.long mm), (.long q1)]))
  refine own_st (fun t k => XS.lxor X0.here hx rfl (hb hby at_44) rfl k) ?_
  show own_Go p e below K (s₁.setTop (mkF m 45 #[.val (.long q1), .second, .val (.long q2), .second, .val (.long q3), .second, .val (.long q4), .second, .val (.long q5), .second, .val (.int p6), .val (.int mk), .val (.int kd), .val (.long mm), .second, .unset, .unset, .unset, .unset, .unset, .unset, .unset, .unset, .unset, .unset, .unset, .unset, .unset, .unset, .unset, .unset] [(.long (q1 ^^^ mm))]))
  refine own_st (fun t k => XS.goto X0.here hx rfl (pc0 := 45) (pc' := 49) rfl (hb hby at_45) (by decide) (by decide) k) ?_
  show own_Go p e below K (s₁.setTop (mkF m 49 #[.val (.long q1), .second, .val (.long q2), .second, .val (.long q3), .second, .val (.long q4), .second, .val (.long q5), .second, .val (.int p6), .val (.int mk), .val (.int kd), .val (.long mm), .second, .unset, .unset, .unset, .unset, .unset, .unset, .unset, .unset, .unset, .unset, .unset, .unset, .unset, .unset, .unset, .unset] [(.long (q1 ^^^ mm))]))
  exact J49 s₁ _ X0 e0 N0 ((q1 ^^^ mm)) ⟨fun h => absurd h (own_xne hm0), fun h => absurd h hc38⟩
set_option maxRecDepth 65536 in
set_option maxHeartbeats 40000000 in
theorem comes_1 {Post : Tables → Env → Array Value → State → Outcome → State → Prop} (hpost : ∀ tb e args s v u, (limb_1_1.after args s (.returned v) u = true ∧ limb_1_2.after args s (.returned v) u = true ∧ True) → FrameEnd s (.returned v) u (Jvm.fieldLocs frame_1_writes args s ++ Jvm.arrayLocs frame_1_arrays args s ++ Jvm.staticLocs frame_1_statics s) 16 128 → Post tb e args s (.returned v) u) :
    ArmFor flags0 classFile x code maxLocals ret World_1 tables_1 room_1 Calls_1 rest_1 Pre_1 Post := by
  intro l hfl _ _ p e ha hc hk s m args below hf hA hF happ hP
  obtain ⟨hcalls, hrest, hpre⟩ := hP
  obtain ⟨-, -, -, hnamed, -, -, -, hat⟩ := (Spec.applies_iff hf).mp happ
  obtain ⟨hg, hn⟩ := and_e (Cond.before_iff.mp (show (Jvm.Cond.and given_1 narrow_1).before args s = true from hpre))
  obtain ⟨g1, g2⟩ := and_e hg
  obtain ⟨g3, g4⟩ := and_e g2
  obtain ⟨g5, g6⟩ := and_e g4
  obtain ⟨g7, g8⟩ := and_e g6
  obtain ⟨g9, g10⟩ := and_e g8
  obtain ⟨g11, g12⟩ := and_e g10
  obtain ⟨w0, w1, w2, w3, w4, w5, rfl⟩ : ∃ w0 w1 w2 w3 w4 w5 : Value, args = #[w0, w1, w2, w3, w4, w5] := by
    have hs : args.size = 6 := by simpa [Cond.value, given_1] using g1
    obtain ⟨L⟩ := args
    match L, hs with
    | [w0, w1, w2, w3, w4, w5], _ => exact ⟨w0, w1, w2, w3, w4, w5, rfl⟩
  have hw := fun d (hd : d ∈ tables_1) => atoms_spec (ws := Jvm.Cond.code x code maxLocals ret :: tables_1) hat d (List.mem_cons_of_mem _ hd)
  have hfit : Fit s := fun {y c} hc i hi => by
    obtain ⟨ha, rfl⟩ := Array.getElem?_eq_some_iff.mp hc
    have q := List.all_eq_true.mp ((Array.all_eq_true_iff_forall_mem.mp hF) _ (Array.getElem_mem ha)) i (List.mem_range.mpr hi)
    simpa [Array.getElem?_eq_getElem hi] using q
  obtain ⟨hsets, hown0⟩ := atoms_of _ (rest_1_c_eq ▸ (show rest_1_c.before _ s = true from hrest))
  have hr0 := Cond.before_iff.mp hown0
  obtain ⟨i0, ei0⟩ := isL_v g3
  obtain rfl : w0 = (.long i0) := Option.some.inj ei0
  obtain ⟨i1, ei1⟩ := isL_v g5
  obtain rfl : w1 = (.long i1) := Option.some.inj ei1
  obtain ⟨i2, ei2⟩ := isL_v g7
  obtain rfl : w2 = (.long i2) := Option.some.inj ei2
  obtain ⟨i3, ei3⟩ := isL_v g9
  obtain rfl : w3 = (.long i3) := Option.some.inj ei3
  obtain ⟨i4, ei4⟩ := isL_v g11
  obtain rfl : w4 = (.long i4) := Option.some.inj ei4
  obtain ⟨i5, ei5⟩ := is_v g12
  obtain rfl : w5 = (.int i5) := Option.some.inj ei5
  obtain ⟨xc, evC⟩ := arr_v (Cond.before_iff.mp (hsets _ (List.mem_of_getElem? (i := 2) rfl)))
  have SC := Sta.start evC (Or.inl (hsets _ (List.mem_of_getElem? (i := 1) rfl)))
  obtain ⟨clC, ArC⟩ := Arr.start evC (Cond.before_iff.mp (hsets _ (List.mem_of_getElem? (i := 2) rfl)))
  have hC := own_cache (fun _ => evC) ArC (Cond.before_iff.mp (hsets _ (List.mem_of_getElem? (i := 4) rfl))) (Cond.before_iff.mp (hsets _ (List.mem_of_getElem? (i := 5) rfl)))
  obtain ⟨n, o, h1, h2, h3, _, L, rfl, ⟨rfl, N⟩, hq⟩ := rm0 l s _ hw tables_1 i0 i1 i2 i3 i4 i5 xc s.heap s.heap.size (Nat.le_refl _) (Old.start s) SC hC p e ha hc hk s m _ below hf ((Spec.applies_iff_loose hf).mp happ).1 ⟨rfl, State.Warmed39.refl s, rfl⟩ trivial
  refine ⟨n, _, h1, h2, h3, hpost _ _ _ _ _ _ ⟨Cond.after_iff.mpr rfl, Cond.after_iff.mpr (eq_i res_at (Term.int_eval (1)) rfl), trivial⟩ ⟨hq.1, hq.2.1, (hq.2.2.sift fun y hy => Or.inr (N y hy)).mono (by decide) (by decide)⟩⟩
theorem main_1_1 : Claimed_1_1 := comes_1 fun _ _ _ _ _ _ h hF => ⟨h.1, hF⟩
theorem main_1_2 : Claimed_1_2 := comes_1 fun _ _ _ _ _ _ h hF => ⟨h.2.1, hF⟩
end Jvm.Pilot.@@N@@
namespace Jvm.Pilot.@@N@@
open Jvm Jvm.ClassFile Sem Op Lib Jvm.Free Jvm.Stand Jvm.Pilot.@@N@@.Jvm.D
/-! MADE BY PROGRAM (witnessworld.py) out of the Statement's table words and the real class files: 16 classes; the members and pool entries that the words name. The judged class is class 1, her method 1. -/
namespace start1
open Jvm.ClassFile
def u (s : String) : CpInfo := .utf8 (stringToUtf16 s)
/-- a pool by its gaps: so many unusable entries, then the entry; so many at the end -/
def gap : Nat → List CpInfo → List CpInfo
  | 0, r => r
  | n + 1, r => .unusable :: gap n r
def poolList (es : List (Nat × CpInfo)) (last : Nat) : List CpInfo := es.foldr (fun e r => gap e.1 (e.2 :: r)) (gap last [])
def pool (es : List (Nat × CpInfo)) (last : Nat) : Array CpInfo := ⟨poolList es last⟩
def fileOf (pool : Array CpInfo) (this : Nat) (attrs : Array Attribute := #[]) (ms : Array MethodInfo := #[]) (fl : Nat := 33) (sup : Nat := 0) (ifs : Array Nat := #[]) (fds : Array FieldInfo := #[]) : ClassFile where
  minorVersion := 0
  majorVersion := 65
  constantPool := pool
  accessFlags := fl
  thisClass := this
  superClass := sup
  interfaces := ifs
  fields := fds
  methods := ms
  attributes := attrs
def plain (name : String) (sup : Option ClassId) : Class where
  name := name
  kind := .ordinary
  loader := none
  accessFlags := 33
  super := sup
  interfaces := #[]
  cf := none
  fields := #[]
  methods := #[]
  instanceTypes := #[]
  staticTypes := #[]
  resolved := #[]
  callSites := []
  init := .initialized
  statics := none
  mirror := none

def pool0 : Array CpInfo := pool [(5, u "<init>"), (0, u "()V"), (1, .class_ 10), (1, u "java/lang/Object")] 113

def k0c0 : Code := { maxStack := 0, maxLocals := 1, code := object_method_1_code, exceptionTable := #[], attributes := #[] }
def k0m0 : Method := { name := "<init>", desc := "()V", sig := { parameters := [], returnType := none }, accessFlags := 1, code := some k0c0 }
/-- java/lang/Object -/
def k0 : Class := { plain "java/lang/Object" none with
  accessFlags := 33
  interfaces := #[]
  cf := some (fileOf pool0 8 #[] #[{ accessFlags := 1, nameIndex := 5, descriptorIndex := 6, attributes := #[] }] 33 0 #[] #[])
  fields := #[]
  methods := #[k0m0]
  instanceTypes := #[]
  staticTypes := #[]
  resolved := Array.replicate 124 none
  statics := none }

def pool1 : Array CpInfo := pool [(2, .class_ 4), (1, u "java/lang/Object"), (0, u "<init>"), (0, u "()V"), (0, .class_ 8), (0, u "com/example/expire_then_sweep/expirethensweep/model/ContainerStats"), (0, .methodref 7 10), (0, .nameAndType 5 11), (0, u "(JJJJJ)V"), (0, .methodref 13 14), (0, .class_ 15), (0, .nameAndType 16 17), (0, u "java/lang/Long"), (0, u "valueOf"), (0, u "(J)Ljava/lang/Long;"), (0, .methodref 7 19), (0, .nameAndType 20 21), (0, u "equals"), (0, u "(Ljava/lang/Object;)Z"), (0, .class_ 23), (0, u "com/example/expire_then_sweep/expirethensweep/model/ContainerStatsEqualsPinLaw"), (2, u "law"), (0, u "(JJJJJI)Z")] 3

def k1m0 : Method := { name := "<init>", desc := "()V", sig := { parameters := [], returnType := none }, accessFlags := 1, code := none }
def k1c1 : Code := { maxStack := 12, maxLocals := 31, code := code, exceptionTable := #[], attributes := #[] }
def k1m1 : Method := { name := "law", desc := "(JJJJJI)Z", sig := { parameters := [.long, .long, .long, .long, .long, .int], returnType := some .boolean }, accessFlags := 9, code := some k1c1 }
/-- com/example/expire_then_sweep/expirethensweep/model/ContainerStatsEqualsPinLaw -/
def k1 : Class := { plain "com/example/expire_then_sweep/expirethensweep/model/ContainerStatsEqualsPinLaw" (some 0) with
  accessFlags := 49
  interfaces := #[]
  cf := some (fileOf pool1 22 #[] #[{ accessFlags := 1, nameIndex := 5, descriptorIndex := 6, attributes := #[] }, { accessFlags := 9, nameIndex := 26, descriptorIndex := 27, attributes := #[] }] 49 2 #[] #[])
  fields := #[]
  methods := #[k1m0, k1m1]
  instanceTypes := #[]
  staticTypes := #[]
  resolved := Array.replicate 31 none
  statics := none }

def pool2 : Array CpInfo := pool [(1, .methodref 2 3), (0, .class_ 4), (0, .nameAndType 5 6), (0, u "java/lang/Object"), (0, u "<init>"), (0, u "()V"), (0, .fieldref 8 9), (0, .class_ 10), (0, .nameAndType 11 12), (0, u "com/example/expire_then_sweep/expirethensweep/model/ContainerStats"), (0, u "storedItems"), (0, u "J"), (0, .fieldref 8 14), (0, .nameAndType 15 12), (0, u "liveItems"), (0, .fieldref 8 17), (0, .nameAndType 18 12), (0, u "sweptItems"), (0, .fieldref 8 20), (0, .nameAndType 21 12), (0, u "userUnits"), (0, .fieldref 8 23), (0, .nameAndType 24 12), (0, u "sweepUnits"), (16, u "(JJJJJ)V"), (3, u "equals"), (0, u "(Ljava/lang/Object;)Z")] 22

def k2c0 : Code := { maxStack := 3, maxLocals := 11, code := prog_6_method_1_code, exceptionTable := #[], attributes := #[] }
def k2m0 : Method := { name := "<init>", desc := "(JJJJJ)V", sig := { parameters := [.long, .long, .long, .long, .long], returnType := none }, accessFlags := 1, code := some k2c0 }
def k2c1 : Code := { maxStack := 4, maxLocals := 3, code := prog_6_method_7_code, exceptionTable := #[], attributes := #[] }
def k2m1 : Method := { name := "equals", desc := "(Ljava/lang/Object;)Z", sig := { parameters := [(.object "java/lang/Object")], returnType := some .boolean }, accessFlags := 1, code := some k2c1 }
/-- com/example/expire_then_sweep/expirethensweep/model/ContainerStats -/
def k2 : Class := { plain "com/example/expire_then_sweep/expirethensweep/model/ContainerStats" (some 0) with
  accessFlags := 49
  interfaces := #[]
  cf := some (fileOf pool2 8 #[] #[{ accessFlags := 1, nameIndex := 5, descriptorIndex := 41, attributes := #[] }, { accessFlags := 1, nameIndex := 45, descriptorIndex := 46, attributes := #[] }] 49 2 #[] #[{ accessFlags := 18, nameIndex := 11, descriptorIndex := 12, attributes := #[] }, { accessFlags := 18, nameIndex := 15, descriptorIndex := 12, attributes := #[] }, { accessFlags := 18, nameIndex := 18, descriptorIndex := 12, attributes := #[] }, { accessFlags := 18, nameIndex := 21, descriptorIndex := 12, attributes := #[] }, { accessFlags := 18, nameIndex := 24, descriptorIndex := 12, attributes := #[] }])
  fields := #[{ name := "storedItems", type := .long, accessFlags := 18, slot := 0, constantValue := 0 }, { name := "liveItems", type := .long, accessFlags := 18, slot := 1, constantValue := 0 }, { name := "sweptItems", type := .long, accessFlags := 18, slot := 2, constantValue := 0 }, { name := "userUnits", type := .long, accessFlags := 18, slot := 3, constantValue := 0 }, { name := "sweepUnits", type := .long, accessFlags := 18, slot := 4, constantValue := 0 }]
  methods := #[k2m0, k2m1]
  instanceTypes := #[.long, .long, .long, .long, .long]
  staticTypes := #[]
  resolved := Array.replicate 69 none
  statics := none }

def pool3 : Array CpInfo := pool [(1, .class_ 2), (0, u "java/io/Serializable"), (0, .class_ 4), (0, u "java/lang/Object")] 2

/-- java/io/Serializable -/
def k3 : Class := { plain "java/io/Serializable" (some 0) with
  accessFlags := 1537
  interfaces := #[]
  cf := some (fileOf pool3 1 #[] #[] 1537 3 #[] #[])
  fields := #[]
  methods := #[]
  instanceTypes := #[]
  staticTypes := #[]
  resolved := Array.replicate 7 none
  statics := none }

def pool4 : Array CpInfo := pool [(1, .methodref 2 3), (0, .class_ 4), (0, .nameAndType 5 6), (0, u "java/lang/Object"), (0, u "<init>"), (0, u "()V"), (1, .class_ 10), (1, u "java/lang/Number"), (2, .class_ 14), (0, u "java/io/Serializable"), (0, u "serialVersionUID"), (0, u "J")] 20

def k4c0 : Code := { maxStack := 1, maxLocals := 1, code := jdk_18_method_1_code, exceptionTable := #[], attributes := #[] }
def k4m0 : Method := { name := "<init>", desc := "()V", sig := { parameters := [], returnType := none }, accessFlags := 1, code := some k4c0 }
/-- java/lang/Number -/
def k4 : Class := { plain "java/lang/Number" (some 0) with
  accessFlags := 1057
  interfaces := #[3]
  cf := some (fileOf pool4 8 #[] #[{ accessFlags := 1, nameIndex := 5, descriptorIndex := 6, attributes := #[] }] 1057 2 #[13] #[{ accessFlags := 26, nameIndex := 15, descriptorIndex := 16, attributes := #[] }])
  fields := #[{ name := "serialVersionUID", type := .long, accessFlags := 26, slot := 0, constantValue := 0 }]
  methods := #[k4m0]
  instanceTypes := #[]
  staticTypes := #[.long]
  resolved := Array.replicate 37 none
  statics := none }

def pool5 : Array CpInfo := pool [(1, .class_ 2), (0, u "java/lang/Comparable"), (0, .class_ 4), (0, u "java/lang/Object")] 7

/-- java/lang/Comparable -/
def k5 : Class := { plain "java/lang/Comparable" (some 0) with
  accessFlags := 1537
  interfaces := #[]
  cf := some (fileOf pool5 1 #[] #[] 1537 3 #[] #[])
  fields := #[]
  methods := #[]
  instanceTypes := #[]
  staticTypes := #[]
  resolved := Array.replicate 12 none
  statics := none }

def pool6 : Array CpInfo := pool [(1, .class_ 2), (0, u "java/lang/constant/Constable"), (0, .class_ 4), (0, u "java/lang/Object")] 6

/-- java/lang/constant/Constable -/
def k6 : Class := { plain "java/lang/constant/Constable" (some 0) with
  accessFlags := 1537
  interfaces := #[]
  cf := some (fileOf pool6 1 #[] #[] 1537 3 #[] #[])
  fields := #[]
  methods := #[]
  instanceTypes := #[]
  staticTypes := #[]
  resolved := Array.replicate 11 none
  statics := none }

def pool7 : Array CpInfo := pool [(1, .class_ 2), (0, u "java/lang/constant/ConstantDesc"), (0, .class_ 4), (0, u "java/lang/Object")] 32

/-- java/lang/constant/ConstantDesc -/
def k7 : Class := { plain "java/lang/constant/ConstantDesc" (some 0) with
  accessFlags := 1537
  interfaces := #[]
  cf := some (fileOf pool7 1 #[] #[] 1537 3 #[] #[])
  fields := #[]
  methods := #[]
  instanceTypes := #[]
  staticTypes := #[]
  resolved := Array.replicate 37 none
  statics := none }

def pool8 : Array CpInfo := pool [(1, .class_ 2), (0, u "java/lang/Long"), (55, .nameAndType 59 60), (0, u "<init>"), (0, u "()V"), (24, u "valueOf"), (143, u "(J)Ljava/lang/Long;"), (0, .long 18446744073709551488), (1, .long 127), (1, .fieldref 235 236), (0, .class_ 237), (0, .nameAndType 238 239), (0, u "java/lang/Long$LongCache"), (0, u "cache"), (0, u "[Ljava/lang/Long;"), (0, .methodref 1 241), (0, .nameAndType 59 242), (0, u "(J)V"), (27, .methodref 271 58), (0, .class_ 272), (0, u "java/lang/Number"), (0, .fieldref 1 274), (0, .nameAndType 275 276), (0, u "value"), (0, u "J"), (84, u "TYPE"), (0, u "Ljava/lang/Class;"), (0, .class_ 364), (0, u "java/lang/Comparable"), (0, .class_ 366), (0, u "java/lang/constant/Constable"), (0, .class_ 368), (0, u "java/lang/constant/ConstantDesc"), (0, u "MIN_VALUE"), (1, u "MAX_VALUE"), (4, u "SIZE"), (0, u "I"), (1, u "BYTES"), (1, u "serialVersionUID")] 142

def k8c0 : Code := { maxStack := 4, maxLocals := 3, code := jdk_35_method_24_code, exceptionTable := #[], attributes := #[] }
def k8m0 : Method := { name := "valueOf", desc := "(J)Ljava/lang/Long;", sig := { parameters := [.long], returnType := some (.object "java/lang/Long") }, accessFlags := 9, code := some k8c0 }
def k8c1 : Code := { maxStack := 3, maxLocals := 3, code := jdk_35_method_26_code, exceptionTable := #[], attributes := #[] }
def k8m1 : Method := { name := "<init>", desc := "(J)V", sig := { parameters := [.long], returnType := none }, accessFlags := 1, code := some k8c1 }
/-- java/lang/Long -/
def k8 : Class := { plain "java/lang/Long" (some 4) with
  accessFlags := 49
  interfaces := #[5, 6, 7]
  cf := some (fileOf pool8 1 #[.nestMembers #[235]] #[{ accessFlags := 9, nameIndex := 85, descriptorIndex := 229, attributes := #[] }, { accessFlags := 1, nameIndex := 59, descriptorIndex := 242, attributes := #[] }] 49 271 #[363, 365, 367] #[{ accessFlags := 25, nameIndex := 369, descriptorIndex := 276, attributes := #[] }, { accessFlags := 25, nameIndex := 371, descriptorIndex := 276, attributes := #[] }, { accessFlags := 25, nameIndex := 361, descriptorIndex := 362, attributes := #[] }, { accessFlags := 18, nameIndex := 275, descriptorIndex := 276, attributes := #[] }, { accessFlags := 25, nameIndex := 376, descriptorIndex := 377, attributes := #[] }, { accessFlags := 25, nameIndex := 379, descriptorIndex := 377, attributes := #[] }, { accessFlags := 26, nameIndex := 381, descriptorIndex := 276, attributes := #[] }])
  fields := #[{ name := "MIN_VALUE", type := .long, accessFlags := 25, slot := 0, constantValue := 0 }, { name := "MAX_VALUE", type := .long, accessFlags := 25, slot := 1, constantValue := 0 }, { name := "TYPE", type := (.object "java/lang/Class"), accessFlags := 25, slot := 2, constantValue := 0 }, { name := "value", type := .long, accessFlags := 18, slot := 0, constantValue := 0 }, { name := "SIZE", type := .int, accessFlags := 25, slot := 3, constantValue := 0 }, { name := "BYTES", type := .int, accessFlags := 25, slot := 4, constantValue := 0 }, { name := "serialVersionUID", type := .long, accessFlags := 26, slot := 5, constantValue := 0 }]
  methods := #[k8m0, k8m1]
  instanceTypes := #[.long]
  staticTypes := #[.long, .long, (.object "java/lang/Class"), .int, .int, .long]
  resolved := Array.replicate 524 none
  statics := none }

def pool9 : Array CpInfo := pool [(2, .class_ 4), (1, u "java/lang/Object"), (0, u "<init>"), (0, u "()V"), (0, .class_ 8), (0, u "java/lang/Long"), (7, .class_ 18), (1, u "java/lang/Long$LongCache"), (0, u "$assertionsDisabled"), (0, u "Z"), (8, u "archivedCache"), (0, u "[Ljava/lang/Long;"), (7, u "cache")] 24

def k9m0 : Method := { name := "<init>", desc := "()V", sig := { parameters := [], returnType := none }, accessFlags := 2, code := none }
/-- java/lang/Long$LongCache -/
def k9 : Class := { plain "java/lang/Long$LongCache" (some 0) with
  accessFlags := 48
  interfaces := #[]
  cf := some (fileOf pool9 16 #[.nestHost 7] #[{ accessFlags := 2, nameIndex := 5, descriptorIndex := 6, attributes := #[] }] 48 2 #[] #[{ accessFlags := 24, nameIndex := 38, descriptorIndex := 30, attributes := #[] }, { accessFlags := 8, nameIndex := 29, descriptorIndex := 30, attributes := #[] }, { accessFlags := 4120, nameIndex := 19, descriptorIndex := 20, attributes := #[] }])
  fields := #[{ name := "cache", type := (.array (.object "java/lang/Long")), accessFlags := 24, slot := 0, constantValue := 0 }, { name := "archivedCache", type := (.array (.object "java/lang/Long")), accessFlags := 8, slot := 1, constantValue := 0 }, { name := "$assertionsDisabled", type := .boolean, accessFlags := 4120, slot := 2, constantValue := 0 }]
  methods := #[k9m0]
  instanceTypes := #[]
  staticTypes := #[(.array (.object "java/lang/Long")), (.array (.object "java/lang/Long")), .boolean]
  resolved := Array.replicate 63 none
  statics := some 0 }

def pool10 : Array CpInfo := pool [(1, u "java/lang/Cloneable"), (0, .class_ 1), (0, u "java/lang/Object"), (0, .class_ 3)] 3

/-- java/lang/Cloneable -/
def k10 : Class := { plain "java/lang/Cloneable" (some 0) with
  accessFlags := 1537
  interfaces := #[]
  cf := some (fileOf pool10 2 #[] #[] 1537 4 #[] #[])
  fields := #[]
  methods := #[]
  instanceTypes := #[]
  staticTypes := #[]
  resolved := Array.replicate 8 none
  statics := none }

/-- the primitive byte -/
def k11 : Class := { plain "byte" none with kind := .primitive 'B', accessFlags := 0x411 }
/-- [B -/
def k12 : Class := { plain "[B" (some 0) with kind := .array 11 .byte, interfaces := #[10, 3], accessFlags := 1041 }

/-- the primitive int -/
def k13 : Class := { plain "int" none with kind := .primitive 'I', accessFlags := 0x411 }
/-- [I -/
def k14 : Class := { plain "[I" (some 0) with kind := .array 13 .int, interfaces := #[10, 3], accessFlags := 1041 }

/-- [Ljava/lang/Long; -/
def k15 : Class := { plain "[Ljava/lang/Long;" (some 0) with kind := .array 8 (.object "java/lang/Long"), interfaces := #[10, 3], accessFlags := 1041 }

def heap : Heap := #[{ cls := 9, slots := #[.ref 1, .null, .int 0], vm := .statics 9 },
  { cls := 15, slots := #[.ref 2, .ref 3, .ref 4, .ref 5, .ref 6, .ref 7, .ref 8, .ref 9, .ref 10, .ref 11, .ref 12, .ref 13, .ref 14, .ref 15, .ref 16, .ref 17, .ref 18, .ref 19, .ref 20, .ref 21, .ref 22, .ref 23, .ref 24, .ref 25, .ref 26, .ref 27, .ref 28, .ref 29, .ref 30, .ref 31, .ref 32, .ref 33, .ref 34, .ref 35, .ref 36, .ref 37, .ref 38, .ref 39, .ref 40, .ref 41, .ref 42, .ref 43, .ref 44, .ref 45, .ref 46, .ref 47, .ref 48, .ref 49, .ref 50, .ref 51, .ref 52, .ref 53, .ref 54, .ref 55, .ref 56, .ref 57, .ref 58, .ref 59, .ref 60, .ref 61, .ref 62, .ref 63, .ref 64, .ref 65, .ref 66, .ref 67, .ref 68, .ref 69, .ref 70, .ref 71, .ref 72, .ref 73, .ref 74, .ref 75, .ref 76, .ref 77, .ref 78, .ref 79, .ref 80, .ref 81, .ref 82, .ref 83, .ref 84, .ref 85, .ref 86, .ref 87, .ref 88, .ref 89, .ref 90, .ref 91, .ref 92, .ref 93, .ref 94, .ref 95, .ref 96, .ref 97, .ref 98, .ref 99, .ref 100, .ref 101, .ref 102, .ref 103, .ref 104, .ref 105, .ref 106, .ref 107, .ref 108, .ref 109, .ref 110, .ref 111, .ref 112, .ref 113, .ref 114, .ref 115, .ref 116, .ref 117, .ref 118, .ref 119, .ref 120, .ref 121, .ref 122, .ref 123, .ref 124, .ref 125, .ref 126, .ref 127, .ref 128, .ref 129, .ref 130, .ref 131, .ref 132, .ref 133, .ref 134, .ref 135, .ref 136, .ref 137, .ref 138, .ref 139, .ref 140, .ref 141, .ref 142, .ref 143, .ref 144, .ref 145, .ref 146, .ref 147, .ref 148, .ref 149, .ref 150, .ref 151, .ref 152, .ref 153, .ref 154, .ref 155, .ref 156, .ref 157, .ref 158, .ref 159, .ref 160, .ref 161, .ref 162, .ref 163, .ref 164, .ref 165, .ref 166, .ref 167, .ref 168, .ref 169, .ref 170, .ref 171, .ref 172, .ref 173, .ref 174, .ref 175, .ref 176, .ref 177, .ref 178, .ref 179, .ref 180, .ref 181, .ref 182, .ref 183, .ref 184, .ref 185, .ref 186, .ref 187, .ref 188, .ref 189, .ref 190, .ref 191, .ref 192, .ref 193, .ref 194, .ref 195, .ref 196, .ref 197, .ref 198, .ref 199, .ref 200, .ref 201, .ref 202, .ref 203, .ref 204, .ref 205, .ref 206, .ref 207, .ref 208, .ref 209, .ref 210, .ref 211, .ref 212, .ref 213, .ref 214, .ref 215, .ref 216, .ref 217, .ref 218, .ref 219, .ref 220, .ref 221, .ref 222, .ref 223, .ref 224, .ref 225, .ref 226, .ref 227, .ref 228, .ref 229, .ref 230, .ref 231, .ref 232, .ref 233, .ref 234, .ref 235, .ref 236, .ref 237, .ref 238, .ref 239, .ref 240, .ref 241, .ref 242, .ref 243, .ref 244, .ref 245, .ref 246, .ref 247, .ref 248, .ref 249, .ref 250, .ref 251, .ref 252, .ref 253, .ref 254, .ref 255, .ref 256, .ref 257], vm := .none },
  { cls := 8, slots := #[.long (-128)], vm := .none },
  { cls := 8, slots := #[.long (-127)], vm := .none },
  { cls := 8, slots := #[.long (-126)], vm := .none },
  { cls := 8, slots := #[.long (-125)], vm := .none },
  { cls := 8, slots := #[.long (-124)], vm := .none },
  { cls := 8, slots := #[.long (-123)], vm := .none },
  { cls := 8, slots := #[.long (-122)], vm := .none },
  { cls := 8, slots := #[.long (-121)], vm := .none },
  { cls := 8, slots := #[.long (-120)], vm := .none },
  { cls := 8, slots := #[.long (-119)], vm := .none },
  { cls := 8, slots := #[.long (-118)], vm := .none },
  { cls := 8, slots := #[.long (-117)], vm := .none },
  { cls := 8, slots := #[.long (-116)], vm := .none },
  { cls := 8, slots := #[.long (-115)], vm := .none },
  { cls := 8, slots := #[.long (-114)], vm := .none },
  { cls := 8, slots := #[.long (-113)], vm := .none },
  { cls := 8, slots := #[.long (-112)], vm := .none },
  { cls := 8, slots := #[.long (-111)], vm := .none },
  { cls := 8, slots := #[.long (-110)], vm := .none },
  { cls := 8, slots := #[.long (-109)], vm := .none },
  { cls := 8, slots := #[.long (-108)], vm := .none },
  { cls := 8, slots := #[.long (-107)], vm := .none },
  { cls := 8, slots := #[.long (-106)], vm := .none },
  { cls := 8, slots := #[.long (-105)], vm := .none },
  { cls := 8, slots := #[.long (-104)], vm := .none },
  { cls := 8, slots := #[.long (-103)], vm := .none },
  { cls := 8, slots := #[.long (-102)], vm := .none },
  { cls := 8, slots := #[.long (-101)], vm := .none },
  { cls := 8, slots := #[.long (-100)], vm := .none },
  { cls := 8, slots := #[.long (-99)], vm := .none },
  { cls := 8, slots := #[.long (-98)], vm := .none },
  { cls := 8, slots := #[.long (-97)], vm := .none },
  { cls := 8, slots := #[.long (-96)], vm := .none },
  { cls := 8, slots := #[.long (-95)], vm := .none },
  { cls := 8, slots := #[.long (-94)], vm := .none },
  { cls := 8, slots := #[.long (-93)], vm := .none },
  { cls := 8, slots := #[.long (-92)], vm := .none },
  { cls := 8, slots := #[.long (-91)], vm := .none },
  { cls := 8, slots := #[.long (-90)], vm := .none },
  { cls := 8, slots := #[.long (-89)], vm := .none },
  { cls := 8, slots := #[.long (-88)], vm := .none },
  { cls := 8, slots := #[.long (-87)], vm := .none },
  { cls := 8, slots := #[.long (-86)], vm := .none },
  { cls := 8, slots := #[.long (-85)], vm := .none },
  { cls := 8, slots := #[.long (-84)], vm := .none },
  { cls := 8, slots := #[.long (-83)], vm := .none },
  { cls := 8, slots := #[.long (-82)], vm := .none },
  { cls := 8, slots := #[.long (-81)], vm := .none },
  { cls := 8, slots := #[.long (-80)], vm := .none },
  { cls := 8, slots := #[.long (-79)], vm := .none },
  { cls := 8, slots := #[.long (-78)], vm := .none },
  { cls := 8, slots := #[.long (-77)], vm := .none },
  { cls := 8, slots := #[.long (-76)], vm := .none },
  { cls := 8, slots := #[.long (-75)], vm := .none },
  { cls := 8, slots := #[.long (-74)], vm := .none },
  { cls := 8, slots := #[.long (-73)], vm := .none },
  { cls := 8, slots := #[.long (-72)], vm := .none },
  { cls := 8, slots := #[.long (-71)], vm := .none },
  { cls := 8, slots := #[.long (-70)], vm := .none },
  { cls := 8, slots := #[.long (-69)], vm := .none },
  { cls := 8, slots := #[.long (-68)], vm := .none },
  { cls := 8, slots := #[.long (-67)], vm := .none },
  { cls := 8, slots := #[.long (-66)], vm := .none },
  { cls := 8, slots := #[.long (-65)], vm := .none },
  { cls := 8, slots := #[.long (-64)], vm := .none },
  { cls := 8, slots := #[.long (-63)], vm := .none },
  { cls := 8, slots := #[.long (-62)], vm := .none },
  { cls := 8, slots := #[.long (-61)], vm := .none },
  { cls := 8, slots := #[.long (-60)], vm := .none },
  { cls := 8, slots := #[.long (-59)], vm := .none },
  { cls := 8, slots := #[.long (-58)], vm := .none },
  { cls := 8, slots := #[.long (-57)], vm := .none },
  { cls := 8, slots := #[.long (-56)], vm := .none },
  { cls := 8, slots := #[.long (-55)], vm := .none },
  { cls := 8, slots := #[.long (-54)], vm := .none },
  { cls := 8, slots := #[.long (-53)], vm := .none },
  { cls := 8, slots := #[.long (-52)], vm := .none },
  { cls := 8, slots := #[.long (-51)], vm := .none },
  { cls := 8, slots := #[.long (-50)], vm := .none },
  { cls := 8, slots := #[.long (-49)], vm := .none },
  { cls := 8, slots := #[.long (-48)], vm := .none },
  { cls := 8, slots := #[.long (-47)], vm := .none },
  { cls := 8, slots := #[.long (-46)], vm := .none },
  { cls := 8, slots := #[.long (-45)], vm := .none },
  { cls := 8, slots := #[.long (-44)], vm := .none },
  { cls := 8, slots := #[.long (-43)], vm := .none },
  { cls := 8, slots := #[.long (-42)], vm := .none },
  { cls := 8, slots := #[.long (-41)], vm := .none },
  { cls := 8, slots := #[.long (-40)], vm := .none },
  { cls := 8, slots := #[.long (-39)], vm := .none },
  { cls := 8, slots := #[.long (-38)], vm := .none },
  { cls := 8, slots := #[.long (-37)], vm := .none },
  { cls := 8, slots := #[.long (-36)], vm := .none },
  { cls := 8, slots := #[.long (-35)], vm := .none },
  { cls := 8, slots := #[.long (-34)], vm := .none },
  { cls := 8, slots := #[.long (-33)], vm := .none },
  { cls := 8, slots := #[.long (-32)], vm := .none },
  { cls := 8, slots := #[.long (-31)], vm := .none },
  { cls := 8, slots := #[.long (-30)], vm := .none },
  { cls := 8, slots := #[.long (-29)], vm := .none },
  { cls := 8, slots := #[.long (-28)], vm := .none },
  { cls := 8, slots := #[.long (-27)], vm := .none },
  { cls := 8, slots := #[.long (-26)], vm := .none },
  { cls := 8, slots := #[.long (-25)], vm := .none },
  { cls := 8, slots := #[.long (-24)], vm := .none },
  { cls := 8, slots := #[.long (-23)], vm := .none },
  { cls := 8, slots := #[.long (-22)], vm := .none },
  { cls := 8, slots := #[.long (-21)], vm := .none },
  { cls := 8, slots := #[.long (-20)], vm := .none },
  { cls := 8, slots := #[.long (-19)], vm := .none },
  { cls := 8, slots := #[.long (-18)], vm := .none },
  { cls := 8, slots := #[.long (-17)], vm := .none },
  { cls := 8, slots := #[.long (-16)], vm := .none },
  { cls := 8, slots := #[.long (-15)], vm := .none },
  { cls := 8, slots := #[.long (-14)], vm := .none },
  { cls := 8, slots := #[.long (-13)], vm := .none },
  { cls := 8, slots := #[.long (-12)], vm := .none },
  { cls := 8, slots := #[.long (-11)], vm := .none },
  { cls := 8, slots := #[.long (-10)], vm := .none },
  { cls := 8, slots := #[.long (-9)], vm := .none },
  { cls := 8, slots := #[.long (-8)], vm := .none },
  { cls := 8, slots := #[.long (-7)], vm := .none },
  { cls := 8, slots := #[.long (-6)], vm := .none },
  { cls := 8, slots := #[.long (-5)], vm := .none },
  { cls := 8, slots := #[.long (-4)], vm := .none },
  { cls := 8, slots := #[.long (-3)], vm := .none },
  { cls := 8, slots := #[.long (-2)], vm := .none },
  { cls := 8, slots := #[.long (-1)], vm := .none },
  { cls := 8, slots := #[.long 0], vm := .none },
  { cls := 8, slots := #[.long 1], vm := .none },
  { cls := 8, slots := #[.long 2], vm := .none },
  { cls := 8, slots := #[.long 3], vm := .none },
  { cls := 8, slots := #[.long 4], vm := .none },
  { cls := 8, slots := #[.long 5], vm := .none },
  { cls := 8, slots := #[.long 6], vm := .none },
  { cls := 8, slots := #[.long 7], vm := .none },
  { cls := 8, slots := #[.long 8], vm := .none },
  { cls := 8, slots := #[.long 9], vm := .none },
  { cls := 8, slots := #[.long 10], vm := .none },
  { cls := 8, slots := #[.long 11], vm := .none },
  { cls := 8, slots := #[.long 12], vm := .none },
  { cls := 8, slots := #[.long 13], vm := .none },
  { cls := 8, slots := #[.long 14], vm := .none },
  { cls := 8, slots := #[.long 15], vm := .none },
  { cls := 8, slots := #[.long 16], vm := .none },
  { cls := 8, slots := #[.long 17], vm := .none },
  { cls := 8, slots := #[.long 18], vm := .none },
  { cls := 8, slots := #[.long 19], vm := .none },
  { cls := 8, slots := #[.long 20], vm := .none },
  { cls := 8, slots := #[.long 21], vm := .none },
  { cls := 8, slots := #[.long 22], vm := .none },
  { cls := 8, slots := #[.long 23], vm := .none },
  { cls := 8, slots := #[.long 24], vm := .none },
  { cls := 8, slots := #[.long 25], vm := .none },
  { cls := 8, slots := #[.long 26], vm := .none },
  { cls := 8, slots := #[.long 27], vm := .none },
  { cls := 8, slots := #[.long 28], vm := .none },
  { cls := 8, slots := #[.long 29], vm := .none },
  { cls := 8, slots := #[.long 30], vm := .none },
  { cls := 8, slots := #[.long 31], vm := .none },
  { cls := 8, slots := #[.long 32], vm := .none },
  { cls := 8, slots := #[.long 33], vm := .none },
  { cls := 8, slots := #[.long 34], vm := .none },
  { cls := 8, slots := #[.long 35], vm := .none },
  { cls := 8, slots := #[.long 36], vm := .none },
  { cls := 8, slots := #[.long 37], vm := .none },
  { cls := 8, slots := #[.long 38], vm := .none },
  { cls := 8, slots := #[.long 39], vm := .none },
  { cls := 8, slots := #[.long 40], vm := .none },
  { cls := 8, slots := #[.long 41], vm := .none },
  { cls := 8, slots := #[.long 42], vm := .none },
  { cls := 8, slots := #[.long 43], vm := .none },
  { cls := 8, slots := #[.long 44], vm := .none },
  { cls := 8, slots := #[.long 45], vm := .none },
  { cls := 8, slots := #[.long 46], vm := .none },
  { cls := 8, slots := #[.long 47], vm := .none },
  { cls := 8, slots := #[.long 48], vm := .none },
  { cls := 8, slots := #[.long 49], vm := .none },
  { cls := 8, slots := #[.long 50], vm := .none },
  { cls := 8, slots := #[.long 51], vm := .none },
  { cls := 8, slots := #[.long 52], vm := .none },
  { cls := 8, slots := #[.long 53], vm := .none },
  { cls := 8, slots := #[.long 54], vm := .none },
  { cls := 8, slots := #[.long 55], vm := .none },
  { cls := 8, slots := #[.long 56], vm := .none },
  { cls := 8, slots := #[.long 57], vm := .none },
  { cls := 8, slots := #[.long 58], vm := .none },
  { cls := 8, slots := #[.long 59], vm := .none },
  { cls := 8, slots := #[.long 60], vm := .none },
  { cls := 8, slots := #[.long 61], vm := .none },
  { cls := 8, slots := #[.long 62], vm := .none },
  { cls := 8, slots := #[.long 63], vm := .none },
  { cls := 8, slots := #[.long 64], vm := .none },
  { cls := 8, slots := #[.long 65], vm := .none },
  { cls := 8, slots := #[.long 66], vm := .none },
  { cls := 8, slots := #[.long 67], vm := .none },
  { cls := 8, slots := #[.long 68], vm := .none },
  { cls := 8, slots := #[.long 69], vm := .none },
  { cls := 8, slots := #[.long 70], vm := .none },
  { cls := 8, slots := #[.long 71], vm := .none },
  { cls := 8, slots := #[.long 72], vm := .none },
  { cls := 8, slots := #[.long 73], vm := .none },
  { cls := 8, slots := #[.long 74], vm := .none },
  { cls := 8, slots := #[.long 75], vm := .none },
  { cls := 8, slots := #[.long 76], vm := .none },
  { cls := 8, slots := #[.long 77], vm := .none },
  { cls := 8, slots := #[.long 78], vm := .none },
  { cls := 8, slots := #[.long 79], vm := .none },
  { cls := 8, slots := #[.long 80], vm := .none },
  { cls := 8, slots := #[.long 81], vm := .none },
  { cls := 8, slots := #[.long 82], vm := .none },
  { cls := 8, slots := #[.long 83], vm := .none },
  { cls := 8, slots := #[.long 84], vm := .none },
  { cls := 8, slots := #[.long 85], vm := .none },
  { cls := 8, slots := #[.long 86], vm := .none },
  { cls := 8, slots := #[.long 87], vm := .none },
  { cls := 8, slots := #[.long 88], vm := .none },
  { cls := 8, slots := #[.long 89], vm := .none },
  { cls := 8, slots := #[.long 90], vm := .none },
  { cls := 8, slots := #[.long 91], vm := .none },
  { cls := 8, slots := #[.long 92], vm := .none },
  { cls := 8, slots := #[.long 93], vm := .none },
  { cls := 8, slots := #[.long 94], vm := .none },
  { cls := 8, slots := #[.long 95], vm := .none },
  { cls := 8, slots := #[.long 96], vm := .none },
  { cls := 8, slots := #[.long 97], vm := .none },
  { cls := 8, slots := #[.long 98], vm := .none },
  { cls := 8, slots := #[.long 99], vm := .none },
  { cls := 8, slots := #[.long 100], vm := .none },
  { cls := 8, slots := #[.long 101], vm := .none },
  { cls := 8, slots := #[.long 102], vm := .none },
  { cls := 8, slots := #[.long 103], vm := .none },
  { cls := 8, slots := #[.long 104], vm := .none },
  { cls := 8, slots := #[.long 105], vm := .none },
  { cls := 8, slots := #[.long 106], vm := .none },
  { cls := 8, slots := #[.long 107], vm := .none },
  { cls := 8, slots := #[.long 108], vm := .none },
  { cls := 8, slots := #[.long 109], vm := .none },
  { cls := 8, slots := #[.long 110], vm := .none },
  { cls := 8, slots := #[.long 111], vm := .none },
  { cls := 8, slots := #[.long 112], vm := .none },
  { cls := 8, slots := #[.long 113], vm := .none },
  { cls := 8, slots := #[.long 114], vm := .none },
  { cls := 8, slots := #[.long 115], vm := .none },
  { cls := 8, slots := #[.long 116], vm := .none },
  { cls := 8, slots := #[.long 117], vm := .none },
  { cls := 8, slots := #[.long 118], vm := .none },
  { cls := 8, slots := #[.long 119], vm := .none },
  { cls := 8, slots := #[.long 120], vm := .none },
  { cls := 8, slots := #[.long 121], vm := .none },
  { cls := 8, slots := #[.long 122], vm := .none },
  { cls := 8, slots := #[.long 123], vm := .none },
  { cls := 8, slots := #[.long 124], vm := .none },
  { cls := 8, slots := #[.long 125], vm := .none },
  { cls := 8, slots := #[.long 126], vm := .none },
  { cls := 8, slots := #[.long 127], vm := .none }]
def classes : Array Class := #[k0, k1, k2, k3, k4, k5, k6, k7, k8, k9, k10, k11, k12, k13, k14, k15]
def interned : List (Array UInt16 × Addr) := []
def slotsUsed : Nat := 515
def theMethod : MethodId := ⟨1, 1⟩
def args0 : Array Value := #[.long 1, .long 2, .long 3, .long 4, .long 5, .int 6]
def aboutOver (below : List Frame) : State where
  vm := { classes := classes, interned := interned.toArray }
  heap := heap
  slotsUsed := slotsUsed
  threads := #[{ frames := .invoking theMethod args0 :: below }]
def below0 : List Frame := [.native { method := ⟨0, 0⟩, args := #[] }]
def about1 : State := aboutOver below0
def p0 : Program := .bare "" "" ""
def e0 : Env := launch0.env 0 0 0
theorem w_frames : about1.frames = Frame.invoking theMethod args0 :: below0 := rfl
set_option maxRecDepth 65536 in
theorem w_args : argsFit about1.vm theMethod args0 = true := by decide +kernel
set_option maxRecDepth 65536 in
theorem w_heap : heapFits about1 = true := by decide +kernel
set_option maxRecDepth 65536 in
theorem w_runnable : about1.curStatus? = some .runnable := by decide +kernel
set_option maxRecDepth 65536 in
theorem w_alone : about1.alone = true := by decide +kernel
set_option maxRecDepth 65536 in
theorem w_named : about1.methodNamed? x = some theMethod := by decide +kernel
set_option maxRecDepth 65536 in
theorem w_hears : about1.hears theMethod below0 = true := by decide +kernel
set_option maxRecDepth 65536 in
theorem w_ripe : about1.ripe theMethod args0 below0 = true := by decide +kernel
theorem w_running : about1.status = .running := rfl
set_option maxRecDepth 65536 in
theorem w_room : about1.hasRoom e0.platform room_1 = true :=
  launch0.hasRoom_least _ room_1 (by decide +kernel) (by decide +kernel) (by decide +kernel) (by decide +kernel) (by decide +kernel) (by decide +kernel)
theorem allAtoms_all (ts : List Jvm.Cond) (a : Array Jvm.Value) (st : Jvm.State) : (allAtoms ts).before a st = ts.all (fun c => c.before a st) := by
  induction ts with
  | nil => rfl
  | cons c t ih =>
    show (Jvm.Cond.and c (allAtoms t)).before a st = _
    rw [Jvm.Cond.before_and, ih, List.all_cons]
def words1 : List Jvm.Cond := Jvm.Cond.code x code maxLocals ret :: tables_1
/-- a 'code' word, met by the world's own term for the bytes: nothing is compared byte by byte -/
theorem code_word {y : MethodName} {bytes : ByteArray} {mx : Nat} {rt : Option FieldType} {a : Array Value} {s : State} {m : MethodId} {meth : Method} {c : Code} (h1 : s.methodNamed? y = some m) (h2 : s.vm.method? m = some meth) (h3 : meth.code = some c) (h4 : c.code = bytes)
    (h5 : (c.maxLocals == mx && c.exceptionTable.isEmpty && decide (c.maxStack ≤ mostOperands) && decide (meth.sig.returnType = rt) && !meth.locks && decide (parseMethodDescriptor y.desc = some meth.sig)) = true) : (Jvm.Cond.code y bytes mx rt).before a s = true := by
  simp only [Bool.and_eq_true, beq_iff_eq, Bool.not_eq_true', decide_eq_true_eq] at h5
  obtain ⟨⟨⟨⟨⟨g1, g2⟩, g3⟩, g4⟩, g5⟩, g6⟩ := h5
  simp [Cond.before, Cond.holds, Cond.value, h1, h2, h3, h4, g1, g2, g3, g4, g5, g6]
def isCode : Jvm.Cond → Bool
  | .code _ _ _ _ => true
  | _ => false
theorem all_split {L : List Jvm.Cond} {P : Jvm.Cond → Bool} (h1 : L.all (fun c => isCode c || P c) = true) (h2 : ∀ c ∈ L.filter isCode, P c = true) : L.all P = true := by
  refine List.all_eq_true.mpr fun c hc => ?_
  have h := List.all_eq_true.mp h1 c hc
  rcases Bool.eq_false_or_eq_true (isCode c) with hi | hi
  · exact h2 c (List.mem_filter.mpr ⟨hc, hi⟩)
  · simpa [hi] using h
set_option maxRecDepth 65536 in
theorem w_c0 : (Jvm.Cond.code x code maxLocals ret).before args0 about1 = true := code_word (m := ⟨1, 1⟩) (meth := k1m1) (c := k1c1) (by decide +kernel) rfl rfl rfl (by decide +kernel)
set_option maxRecDepth 65536 in
theorem w_c1 : (Jvm.Cond.code ({ cls := "com/example/expire_then_sweep/expirethensweep/model/ContainerStats", name := "<init>", desc := "(JJJJJ)V" } : Jvm.MethodName) prog_6_method_1_code (11 : Nat) (Option.none : Option Jvm.ClassFile.FieldType)).before args0 about1 = true := code_word (m := ⟨2, 0⟩) (meth := k2m0) (c := k2c0) (by decide +kernel) rfl rfl rfl (by decide +kernel)
set_option maxRecDepth 65536 in
theorem w_c2 : (Jvm.Cond.code ({ cls := "java/lang/Object", name := "<init>", desc := "()V" } : Jvm.MethodName) object_method_1_code (1 : Nat) (Option.none : Option Jvm.ClassFile.FieldType)).before args0 about1 = true := code_word (m := ⟨0, 0⟩) (meth := k0m0) (c := k0c0) (by decide +kernel) rfl rfl rfl (by decide +kernel)
set_option maxRecDepth 65536 in
theorem w_c3 : (Jvm.Cond.code ({ cls := "com/example/expire_then_sweep/expirethensweep/model/ContainerStats", name := "equals", desc := "(Ljava/lang/Object;)Z" } : Jvm.MethodName) prog_6_method_7_code (3 : Nat) (Option.some Jvm.ClassFile.FieldType.boolean)).before args0 about1 = true := code_word (m := ⟨2, 1⟩) (meth := k2m1) (c := k2c1) (by decide +kernel) rfl rfl rfl (by decide +kernel)
set_option maxRecDepth 65536 in
theorem w_c4 : (Jvm.Cond.code ({ cls := "java/lang/Long", name := "valueOf", desc := "(J)Ljava/lang/Long;" } : Jvm.MethodName) jdk_35_method_24_code (3 : Nat) (Option.some (Jvm.ClassFile.FieldType.object "java/lang/Long"))).before args0 about1 = true := code_word (m := ⟨8, 0⟩) (meth := k8m0) (c := k8c0) (by decide +kernel) rfl rfl rfl (by decide +kernel)
set_option maxRecDepth 65536 in
theorem w_c5 : (Jvm.Cond.code ({ cls := "java/lang/Long", name := "<init>", desc := "(J)V" } : Jvm.MethodName) jdk_35_method_26_code (3 : Nat) (Option.none : Option Jvm.ClassFile.FieldType)).before args0 about1 = true := code_word (m := ⟨8, 1⟩) (meth := k8m1) (c := k8c1) (by decide +kernel) rfl rfl rfl (by decide +kernel)
set_option maxRecDepth 65536 in
theorem w_c6 : (Jvm.Cond.code ({ cls := "java/lang/Number", name := "<init>", desc := "()V" } : Jvm.MethodName) jdk_18_method_1_code (1 : Nat) (Option.none : Option Jvm.ClassFile.FieldType)).before args0 about1 = true := code_word (m := ⟨4, 0⟩) (meth := k4m0) (c := k4c0) (by decide +kernel) rfl rfl rfl (by decide +kernel)
def codes1 : List Jvm.Cond := [Jvm.Cond.code x code maxLocals ret, Jvm.Cond.code ({ cls := "com/example/expire_then_sweep/expirethensweep/model/ContainerStats", name := "<init>", desc := "(JJJJJ)V" } : Jvm.MethodName) prog_6_method_1_code (11 : Nat) (Option.none : Option Jvm.ClassFile.FieldType), Jvm.Cond.code ({ cls := "java/lang/Object", name := "<init>", desc := "()V" } : Jvm.MethodName) object_method_1_code (1 : Nat) (Option.none : Option Jvm.ClassFile.FieldType), Jvm.Cond.code ({ cls := "com/example/expire_then_sweep/expirethensweep/model/ContainerStats", name := "equals", desc := "(Ljava/lang/Object;)Z" } : Jvm.MethodName) prog_6_method_7_code (3 : Nat) (Option.some Jvm.ClassFile.FieldType.boolean), Jvm.Cond.code ({ cls := "java/lang/Long", name := "valueOf", desc := "(J)Ljava/lang/Long;" } : Jvm.MethodName) jdk_35_method_24_code (3 : Nat) (Option.some (Jvm.ClassFile.FieldType.object "java/lang/Long")), Jvm.Cond.code ({ cls := "java/lang/Long", name := "<init>", desc := "(J)V" } : Jvm.MethodName) jdk_35_method_26_code (3 : Nat) (Option.none : Option Jvm.ClassFile.FieldType), Jvm.Cond.code ({ cls := "java/lang/Number", name := "<init>", desc := "()V" } : Jvm.MethodName) jdk_18_method_1_code (1 : Nat) (Option.none : Option Jvm.ClassFile.FieldType)]
set_option maxRecDepth 65536 in
theorem codes_eq : words1.filter isCode = codes1 := rfl
theorem w_codes : ∀ c ∈ words1.filter isCode, c.before args0 about1 = true := by
  rw [codes_eq]
  intro c hc
  simp only [codes1, List.mem_cons, List.not_mem_nil, or_false] at hc
  rcases hc with rfl | rfl | rfl | rfl | rfl | rfl | rfl
  · exact w_c0
  · exact w_c1
  · exact w_c2
  · exact w_c3
  · exact w_c4
  · exact w_c5
  · exact w_c6
set_option maxRecDepth 65536 in
theorem w_t1 : (words1.take 24).all (fun c => isCode c || c.before args0 about1) = true := by decide +kernel
set_option maxRecDepth 65536 in
theorem w_t2 : ((words1.drop 24).take 24).all (fun c => isCode c || c.before args0 about1) = true := by decide +kernel
set_option maxRecDepth 65536 in
theorem w_t3 : ((words1.drop 24).drop 24).all (fun c => isCode c || c.before args0 about1) = true := by decide +kernel
theorem w_tables : (allAtoms (Jvm.Cond.code x code maxLocals ret :: tables_1)).before args0 about1 = true := by
  rw [allAtoms_all]
  show words1.all (fun c => c.before args0 about1) = true
  refine all_split ?_ w_codes
  rw [← List.take_append_drop 24 words1, List.all_append, w_t1, ← List.take_append_drop 24 (words1.drop 24), List.all_append, w_t2, w_t3]
  rfl
set_option maxRecDepth 65536 in
theorem w_rest : rest_1_c.before args0 about1 = true := by decide +kernel
set_option maxRecDepth 65536 in
theorem w_case : (Jvm.Cond.and given_1 narrow_1).before args0 about1 = true := by decide +kernel
theorem w_applies : (headSpec (Jvm.Cond.code x code maxLocals ret :: tables_1) room_1).applies x e0.platform about1 = true :=
  (Spec.applies_iff w_frames).mpr ⟨w_running, w_runnable, w_alone, w_named, w_hears, w_ripe, w_room, w_tables⟩
theorem atStart : AtStart classFile x code maxLocals ret World_1 tables_1 room_1 Calls_1 rest_1 Pre_1 launch0 p0 e0 about1 theMethod args0 below0 :=
  ⟨lists_1, trivial, launch0.admits_env _ _ _, launch0.least_env, fairChoices_fair.cas, fairChoices_fair.clock, w_frames, w_args, w_heap, w_applies, trivial, w_rest, w_case⟩
end start1
theorem witness_1 : WitnessClaimed_1 := ⟨start1.p0, start1.e0, start1.about1, start1.theMethod, start1.args0, start1.below0, start1.atStart⟩
end Jvm.Pilot.@@N@@
