import JvmDerived
import JvmDerived.Pilot.@@N@@Statement
import JvmDerived.Pilot.@@N@@Code
set_option linter.unusedVariables false
set_option linter.unusedSimpArgs false
namespace Jvm.RoadKit
open Sem ClassFile Op Lib Jvm.Stand Jvm.Free Jvm.LawKit
section New
variable {p : Program} {l : Launch} {e : Env} {R : Room} {s : State} {m : MethodId} {args : Array Value} {below : List Frame} {meth : Method} {c : Code} {T : State} {locs : List Loc} {cells slots : Nat}
theorem retI (X : Stand p l e R s m args below meth c T locs cells slots) (hx : p.tables.exec = Jvm.exec) {pc : Nat} {Ls : Array Slot} {z : Int32} {rest : List Value} (hret : meth.sig.returnType = some .int) (hd : decode c.code pc = .ok (.ireturn, 1)) {fs : List Frame}
    (hl : ∀ (f : JFrame) (acts : List Action), f.method = m → f.locked = none → f.entered = [] → (doReturn e (T.setTop f) acts (some (.int z))).1 = T.setFrames fs) : Steps p.tables e below (T.setTop (mkF m pc Ls (.int z :: rest))) (T.setFrames fs) := by
  have hm' : T.vm.method? m = some meth := X.method'
  have hn : narrow .int (.int z) = .int z := rfl
  show Steps p.tables e below (T.setTop { method := m, pc := pc, locals := Ls, stack := _ :: rest, locked := none }) _
  jvm_step X.here [X.here.top, hx, hd, hm', hret, hn]
  first | (intro acts; rw [hl _ acts rfl rfl rfl]) | rw [hl _ _ rfl rfl rfl]
  exact Steps.refl _
end New
end Jvm.RoadKit
namespace Jvm.Pilot.@@N@@
open Jvm Jvm.ClassFile Sem Op Lib Jvm.Free Jvm.Stand Jvm.LawKit Jvm.RoadKit Bundle Jvm.Pilot.@@N@@.Jvm.D
/-- from the state T the run comes to a state of which K holds -/
def own_Go (p : Program) (e : Env) (below : List Frame) (K : State → Prop) (T : State) : Prop := ∃ t, Steps p.tables e below T t ∧ K t
theorem own_st {p : Program} {e : Env} {below : List Frame} {K : State → Prop} {T T' : State} (h : ∀ t, Steps p.tables e below T' t → Steps p.tables e below T t) (g : own_Go p e below K T') : own_Go p e below K T := by
  obtain ⟨t, a, b⟩ := g; exact ⟨t, h t a, b⟩
theorem own_tr {p : Program} {e : Env} {below : List Frame} {K : State → Prop} {T T' : State} (h : Steps p.tables e below T T') (g : own_Go p e below K T') : own_Go p e below K T := by
  obtain ⟨t, a, b⟩ := g; exact ⟨t, h.trans a, b⟩
theorem own_lrem {tb : Tables} [Ours tb] {e : Env} {below : List Frame} {T target : State} {m : MethodId} {c : Code} {g : JFrame} (h : At T m c below) (hx : tb.exec = Jvm.exec) (hg : g.method = m) {x y : Int64} {rest : List Value} (hd : decode c.code g.pc = .ok (.lrem, 1)) (hs : g.stack = .long y :: .long x :: rest) (hy : y ≠ 0)
    (hr : Steps tb e below (T.setTop { g with pc := g.pc + 1, stack := .long (x % y) :: rest }) target) : Steps tb e below (T.setTop g) target := by
  have q : x - x / y * y = x % y := lrem_mod x y
  exact XS.lrem h hx hg hd hs hy (by rw [q]; exact hr)
/-- a boolean's worth: 1 where P holds, 0 where it doesn't -/
def own_B (P : Prop) (r : Int32) : Prop := (r = 1 ∧ P) ∨ (r = 0 ∧ ¬ P)
theorem own_B.yes {P : Prop} {r : Int32} (e : r = 1) (h : P) : own_B P r := Or.inl ⟨e, h⟩
theorem own_B.no {P : Prop} {r : Int32} (e : r = 0) (h : ¬ P) : own_B P r := Or.inr ⟨e, h⟩
theorem own_B.same {P Q : Prop} {r v : Int32} (a : own_B P r) (b : own_B Q v) (h : P ↔ Q) : r = v := by
  rcases a with ⟨rfl, p⟩ | ⟨rfl, p⟩ <;> rcases b with ⟨rfl, q⟩ | ⟨rfl, q⟩
  · rfl
  · exact absurd (h.mp p) q
  · exact absurd (h.mpr q) p
  · rfl
theorem own_B.one {P : Prop} {r : Int32} (a : own_B P r) (h : P) : r = 1 := by
  rcases a with ⟨rfl, p⟩ | ⟨rfl, p⟩
  · rfl
  · exact absurd h p
theorem own_B.zero {P : Prop} {r : Int32} (a : own_B P r) (h : ¬ P) : r = 0 := by
  rcases a with ⟨rfl, p⟩ | ⟨rfl, p⟩
  · exact absurd p h
  · rfl
theorem own_B.ne0 {P : Prop} {r : Int32} (a : own_B P r) (h : P) : ¬ r = 0 := by rw [a.one h]; decide
theorem own_B.holds {P : Prop} {r : Int32} (a : own_B P r) (h : ¬ r = 0) : P := by
  rcases a with ⟨rfl, p⟩ | ⟨rfl, p⟩
  · exact p
  · exact absurd rfl h
theorem own_B.fails {P : Prop} {r : Int32} (a : own_B P r) (h : r = 0) : ¬ P := by
  rcases a with ⟨rfl, p⟩ | ⟨rfl, p⟩
  · exact absurd h (by decide)
  · exact p
theorem own_atJ (ws : List Int64) (i : Nat) : (ws.map Value.long).getD i (.long (0 : Int64)) = .long (ws.getD i 0) := by
  simp only [List.getD, List.getElem?_map]; cases ws[i]? <;> rfl
theorem own_atI (ws : List Int32) (i : Nat) : (ws.map Value.int).getD i (.int (0 : Int32)) = .int (ws.getD i 0) := by
  simp only [List.getD, List.getElem?_map]; cases ws[i]? <;> rfl
theorem own_selp {Z s : State} {a0 args : Array Value} {y : MethodName} {n : Nat} (hZ : Z.Warmed39 s.vm) (wi : (Jvm.Cond.instantiable y.cls n).before a0 Z = true) (wm : (Jvm.Cond.instanceMethod y).before a0 Z = true) (wp : (Jvm.Cond.privateMethod y).before a0 Z = true) (hy : y.cls ≠ "java/lang/invoke/MethodHandle" ∧ y.cls ≠ "java/lang/invoke/VarHandle") : (Jvm.Cond.selects y.cls y y).before args s = true := by
  have w1 : (Jvm.Cond.instantiable y.cls n).before args s = true := mvT hZ wi
  obtain ⟨c, k, h1, h2, h3, h4, -⟩ := Cond.instantiable_spec w1
  have h5 : k.isInterface = false := by cases hq : k.isInterface <;> simp [hq] at h4 ⊢
  exact selects_self_of_private h1 h2 h5 (Cond.privateMethod_at (mvP hZ wp (args := args))) (mvT hZ wm) hy
theorem own_hat {T : State} {h : Heap} {a : Addr} {c : Cell} (e : T.heap = h) (q : h[a]? = some c) : T.heap[a]? = some c := by rw [e]; exact q
theorem own_nn (x : Int32) : nar .byte (nar .byte x) = nar .byte x := by
  refine Int32.toInt_inj.mp ?_
  have a := c_i2b x
  have b := c_i2b x.toInt8.toInt32
  show x.toInt8.toInt32.toInt8.toInt32.toInt = x.toInt8.toInt32.toInt
  omega
theorem own_nb (x : Int32) : nar .byte x.toInt8.toInt32 = x.toInt8.toInt32 := own_nn x
theorem own_fit {x : Int32} (h : nar .byte x = x) : fits .byte (.int x) = true := by rw [← h]; exact fits_nar_byte x
theorem own_cl {j : Int32} {i : Nat} (h : j.toInt = (i : Int)) : j.toNatClampNeg = i := by rw [Int32.toNatClampNeg, h]; rfl
theorem own_lt {a b : Int32} (h : a.toInt < b.toInt) : a < b := Int32.lt_iff_toInt_lt.mpr h
theorem own_nlt {a b : Int32} (h : b.toInt ≤ a.toInt) : ¬ a < b := fun q => absurd (Int32.lt_iff_toInt_lt.mp q) (by omega)
theorem own_ltI {a b : Int32} (h : a < b) : a.toInt < b.toInt := Int32.lt_iff_toInt_lt.mp h
theorem own_nltI {a b : Int32} (h : ¬ a < b) : b.toInt ≤ a.toInt := by have := mt Int32.lt_iff_toInt_lt.mpr h; omega
theorem own_neI {a b : Int32} (h : ¬ a = b) : ¬ a.toInt = b.toInt := fun q => h (Int32.toInt_inj.mp q)
theorem own_ltL {a b : Int64} (h : a < b) : a.toInt < b.toInt := Int64.lt_iff_toInt_lt.mp h
theorem own_nltL {a b : Int64} (h : ¬ a < b) : b.toInt ≤ a.toInt := by have := mt Int64.lt_iff_toInt_lt.mpr h; omega
theorem own_neL {a b : Int64} (h : ¬ a = b) : ¬ a.toInt = b.toInt := fun q => h (Int64.toInt_inj.mp q)
theorem own_k : FP.Core.val64 4368491638549381120 = .fin false (2 ^ 52) (-105) := by decide +kernel
theorem own_c1 : FP.Core.val64 4603309323120478781 = .fin false 5134103575202365 (-53) := by decide +kernel
theorem own_c2 : FP.Core.val64 4605020690978879570 = .fin false 6845471433603154 (-53) := by decide +kernel
theorem own_c3 : FP.Core.val64 4606732058837280358 = .fin false 8556839292003942 (-53) := by decide +kernel
open FP.Core in
theorem own_x {u : Int64} (h0 : 0 < u.toInt) (h1 : u.toInt < 9007199254740992) : ∃ (c k : Nat), val64 (dmul (l2d u) 4368491638549381120) = .fin false c (-53 - (k : Int)) ∧ (c : Int) = u.toInt * ((2 ^ k : Nat) : Int) := by
  have w := l2d_whole (a := u) ⟨by omega, h1⟩
  obtain ⟨c, q, ea⟩ := l2d_shape u
  have hf := val64_fits (l2d u)
  rw [ea] at w hf
  have hs : decide (u.toInt < 0) = false := decide_eq_false (by omega)
  rw [hs] at w hf ea
  obtain ⟨f1, f2, f3, f4⟩ := hf
  have w' : ((c * 2 ^ q.toNat : Nat) : Int) = u.toInt * ((2 ^ (-q).toNat : Nat) : Int) := w
  have p53 : (2 : Nat) ^ b64.p = 9007199254740992 := by decide
  have t52 : b64.tails = 4503599627370496 := by decide
  have qm : b64.qmin = -1074 := by decide
  have qx : b64.qmax = 971 := by decide
  rw [p53] at f1
  rw [qm] at f2 f4
  rw [qx] at f3
  rw [t52] at f4
  have q0 : q ≤ 0 := by
    rcases (by omega : 0 < q ∨ q ≤ 0) with z | z
    · exfalso
      have e1 : (-q).toNat = 0 := by omega
      rw [e1] at w'
      rcases f4 with f4 | f4
      · omega
      · obtain ⟨j, hj⟩ : ∃ j, q.toNat = j + 1 := ⟨q.toNat - 1, by omega⟩
        rw [hj, Nat.pow_succ] at w'
        have : 1 ≤ 2 ^ j := Nat.one_le_two_pow
        have h2 : 4503599627370496 * (1 * 2) ≤ c * (2 ^ j * 2) := Nat.mul_le_mul f4 (Nat.mul_le_mul this (Nat.le_refl _))
        simp only [Nat.pow_zero] at w'
        omega
    · exact z
  obtain ⟨k, rfl⟩ : ∃ k : Nat, q = -(k : Int) := ⟨(-q).toNat, by omega⟩
  have e1 : (-(k : Int)).toNat = 0 := by omega
  have e2 : (- -(k : Int)).toNat = k := by omega
  rw [e1, e2, Nat.pow_zero, Nat.mul_one] at w'
  have k52 : k ≤ 52 := by
    rcases Nat.lt_or_ge 52 k with z | z
    · exfalso
      obtain ⟨j, hj⟩ : ∃ j, k = 53 + j := ⟨k - 53, by omega⟩
      have b : 2 ^ 53 ≤ 2 ^ k := Nat.pow_le_pow_right (by decide) (by omega)
      have b' : (9007199254740992 : Int) ≤ ((2 ^ k : Nat) : Int) := by
        have : (9007199254740992 : Nat) = 2 ^ 53 := by decide
        rw [← this] at b
        exact Int.ofNat_le.mpr b
      have : (1 : Int) * 9007199254740992 ≤ u.toInt * ((2 ^ k : Nat) : Int) := Int.mul_le_mul (by omega) b' (by omega) (by omega)
      omega
    · exact z
  have f5 : 4503599627370496 ≤ c := by omega
  refine ⟨c, k, ?_, w'⟩
  rw [val64_dmul, ea, own_k]
  show roundRatio b64 false (c * 2 ^ 52) 1 (-(k : Int) + -105) = _
  refine roundRatio_exact good_b64 (by decide) ⟨?_, ?_, ?_, ?_⟩ ?_
  · rw [p53]; exact f1
  · rw [qm]; omega
  · rw [qx]; omega
  · rw [t52]; exact Or.inr f5
  · have a1 : (-(k : Int) + -105 - (-53 - (k : Int))).toNat = 0 := by omega
    have a2 : (-53 - (k : Int) - (-(k : Int) + -105)).toNat = 52 := by omega
    rw [a1, a2, Nat.pow_zero, Nat.mul_one, Nat.mul_one]
open FP.Core in
theorem own_x0 : val64 (dmul (l2d 0) 4368491638549381120) = .fin false 0 (-1074) := by decide +kernel
theorem own_cmp {a b : Int} {m : Int} (h : 0 < m) : compare (a * m) (b * m) = compare a b := by
  have e : ∀ x y : Int, compare x y = if x < y then .lt else if x = y then .eq else .gt := fun _ _ => rfl
  rw [e, e]
  have h1 : a * m < b * m ↔ a < b := ⟨fun q => Int.lt_of_mul_lt_mul_right q (Int.le_of_lt h), fun q => Int.mul_lt_mul_of_pos_right q h⟩
  have h2 : a * m = b * m ↔ a = b := ⟨fun q => Int.eq_of_mul_eq_mul_right (by omega) q, fun q => by rw [q]⟩
  simp only [h1, h2]
open FP.Core in
theorem own_dc {u : Int64} (h0 : 0 ≤ u.toInt) (h1 : u.toInt < 9007199254740992) {C : UInt64} {d : Nat} (hC : val64 C = .fin false d (-53)) : dcmp (dmul (l2d u) 4368491638549381120) C = some (compare u.toInt (d : Int)) := by
  show order (val64 (dmul (l2d u) 4368491638549381120)) (val64 C) = _
  rw [hC]
  rcases Int.lt_or_eq_of_le h0 with z | z
  · obtain ⟨c, k, e, w⟩ := own_x z h1
    rw [e]
    show some (compare ((inUnits c (-53 - (k : Int)) (min (-53 - (k : Int)) (-53)) : Nat) : Int) ((inUnits d (-53) (min (-53 - (k : Int)) (-53)) : Nat) : Int)) = _
    have m : min (-53 - (k : Int)) (-53) = -53 - (k : Int) := by omega
    rw [m]
    unfold inUnits
    have a1 : (-53 - (k : Int) - (-53 - (k : Int))).toNat = 0 := by omega
    have a2 : (-53 - (-53 - (k : Int))).toNat = k := by omega
    rw [a1, a2, Nat.pow_zero, Nat.mul_one, w, Int.natCast_mul]
    rw [own_cmp (Int.ofNat_lt.mpr (Nat.two_pow_pos k))]
  · have u0 : u = 0 := Int64.toInt_inj.mp z.symm
    subst u0
    rw [own_x0]
    show some (compare ((inUnits 0 (-1074) (min (-1074) (-53)) : Nat) : Int) ((inUnits d (-53) (min (-1074) (-53)) : Nat) : Int)) = _
    have m : min (-1074 : Int) (-53) = -1074 := by decide
    rw [m]
    unfold inUnits
    have a2 : ((-53 : Int) - (-1074)).toNat = 1021 := by decide
    rw [a2, Nat.zero_mul, Int.natCast_mul]
    have := own_cmp (a := 0) (b := d) (m := ((2 ^ 1021 : Nat) : Int)) (Int.ofNat_lt.mpr (Nat.two_pow_pos 1021))
    rw [Int.zero_mul] at this
    rw [← z]
    exact congrArg some this
def own_pair (u : Int64) : Int32 := ((((((5134103575202364 : Int64) - u).toUInt64 >>> ((63 : Int32) &&& 0x3f).toInt64.toUInt64).toInt64) + ((((6845471433603153 : Int64) - u).toUInt64 >>> ((63 : Int32) &&& 0x3f).toInt64.toUInt64).toInt64)) + ((((8556839292003941 : Int64) - u).toUInt64 >>> ((63 : Int32) &&& 0x3f).toInt64.toUInt64).toInt64)).toInt32
def own_exp (u : Int64) : Int32 := if u < (5134103575202365 : Int64) then 0 else if u < (6845471433603154 : Int64) then 1 else if u < (8556839292003942 : Int64) then 2 else 3
theorem own_mask {q u : Int64} (h : q &&& (9007199254740991 : Int64) = u) : 0 ≤ u.toInt ∧ u.toInt < 9007199254740992 := by
  have m : (q &&& (9007199254740991 : Int64)).toInt = q.toInt % (2 ^ 53 : Nat) := c_maskL _ 9007199254740991 53 (by decide) (by decide)
  rw [h] at m
  omega
theorem own_t {u L : Int64} (h : 0 ≤ u.toInt ∧ u.toInt < 9007199254740992) (hL : 0 ≤ L.toInt ∧ L.toInt < 9007199254740992) : (((L - u).toUInt64 >>> ((63 : Int32) &&& 0x3f).toInt64.toUInt64).toInt64).toInt = if L.toInt < u.toInt then 1 else 0 := by
  have a := c_lushr (L - u) (63 : Int32) 63 (by decide) (by decide)
  have b := c_lsub L u
  have r := rng64 (L - u)
  rw [a]
  split <;> omega
theorem own_same {u : Int64} (h : 0 ≤ u.toInt ∧ u.toInt < 9007199254740992) : own_pair u = own_exp u := by
  have e0 := own_t (L := 5134103575202364) h (by decide)
  have e1 := own_t (L := 6845471433603153) h (by decide)
  have e2 := own_t (L := 8556839292003941) h (by decide)
  have l0 : (5134103575202364 : Int64).toInt = 5134103575202364 := by decide
  have l1 : (6845471433603153 : Int64).toInt = 6845471433603153 := by decide
  have l2 : (8556839292003941 : Int64).toInt = 8556839292003941 := by decide
  have m0 : (5134103575202365 : Int64).toInt = 5134103575202365 := by decide
  have m1 : (6845471433603154 : Int64).toInt = 6845471433603154 := by decide
  have m2 : (8556839292003942 : Int64).toInt = 8556839292003942 := by decide
  rw [l0] at e0
  rw [l1] at e1
  rw [l2] at e2
  refine Int32.toInt_inj.mp ?_
  unfold own_pair own_exp
  simp only [Int64.lt_iff_toInt_lt, m0, m1, m2]
  generalize ((((5134103575202364 : Int64) - u).toUInt64 >>> ((63 : Int32) &&& 0x3f).toInt64.toUInt64).toInt64) = x0 at *
  generalize ((((6845471433603153 : Int64) - u).toUInt64 >>> ((63 : Int32) &&& 0x3f).toInt64.toUInt64).toInt64) = x1 at *
  generalize ((((8556839292003941 : Int64) - u).toUInt64 >>> ((63 : Int32) &&& 0x3f).toInt64.toUInt64).toInt64) = x2 at *
  have a1 := c_ladd x0 x1
  have a2 := c_ladd (x0 + x1) x2
  have r1 := rng64 (x0 + x1)
  have r2 := rng64 (x0 + x1 + x2)
  have a3 := c_l2i (x0 + x1 + x2)
  have r3 := rng32 (x0 + x1 + x2).toInt32
  have z0 : (0 : Int32).toInt = 0 := by decide
  have z1 : (1 : Int32).toInt = 1 := by decide
  have z2 : (2 : Int32).toInt = 2 := by decide
  have z3 : (3 : Int32).toInt = 3 := by decide
  have b0 : x0.toInt = 0 ∨ x0.toInt = 1 := by rw [e0]; split <;> simp
  have b1 : x1.toInt = 0 ∨ x1.toInt = 1 := by rw [e1]; split <;> simp
  have b2 : x2.toInt = 0 ∨ x2.toInt = 1 := by rw [e2]; split <;> simp
  by_cases c0 : u.toInt < 5134103575202365
  · rw [if_pos c0, z0]; rw [if_neg (by omega)] at e0 e1 e2; omega
  · rw [if_neg c0]; rw [if_pos (by omega)] at e0
    by_cases c1 : u.toInt < 6845471433603154
    · rw [if_pos c1, z1]; rw [if_neg (by omega)] at e1 e2; omega
    · rw [if_neg c1]; rw [if_pos (by omega)] at e1
      by_cases c2 : u.toInt < 8556839292003942
      · rw [if_pos c2, z2]; rw [if_neg (by omega)] at e2; omega
      · rw [if_neg c2, z3]; rw [if_pos (by omega)] at e2; omega
theorem own_dl {u d : Int64} {C : UInt64} {n : Nat} (h : 0 ≤ u.toInt ∧ u.toInt < 9007199254740992) (hC : FP.Core.val64 C = .fin false n (-53)) (hd : d.toInt = (n : Int)) : cmpValue (FP.dcmp (FP.dmul (FP.l2d u) (4368491638549381120 : UInt64)) C) .g = lcmpW u d := by
  rw [cmpV_g, show FP.dcmp (FP.dmul (FP.l2d u) (4368491638549381120 : UInt64)) C = _ from own_dc h.1 h.2 hC, ← hd]
  have e : compare u.toInt d.toInt = if u.toInt < d.toInt then .lt else if u.toInt = d.toInt then .eq else .gt := rfl
  rw [e]
  simp only [lcmpW, Int64.lt_iff_toInt_lt, ← Int64.toInt_inj]
  by_cases h1 : u.toInt < d.toInt
  · simp [h1, FP.cmpInt, show ¬ d.toInt < u.toInt by omega, show ¬ u.toInt = d.toInt by omega]
  · by_cases h2 : u.toInt = d.toInt
    · simp [h2, FP.cmpInt]
    · simp [h1, h2, FP.cmpInt, show d.toInt < u.toInt by omega]
theorem own_dn {u : Int64} (h : 0 ≤ u.toInt ∧ u.toInt < 9007199254740992) : Jvm.Free.Fl.NoNaN64 (FP.dmul (FP.l2d u) (4368491638549381120 : UInt64)) :=
  (Jvm.Free.Fl.dcmp_some (show FP.dcmp (FP.dmul (FP.l2d u) (4368491638549381120 : UInt64)) 4603309323120478781 = _ from own_dc h.1 h.2 own_c1)).1
theorem own_up {args : Array Value} {s : State} {t : Term} {a : Addr} {cl : Cell} (hfit : Fit s) (ev : t.eval args s none [] s = some (.ref a)) (A : Arr s s.heap a cl .long) (hl : (Jvm.Cond.eq (Term.length t) (Term.int (3 : Int32))).value args s none s [] = some true)
    (h0 : (Jvm.Cond.eq (Term.elem t (Term.int (0 : Int32))) (Term.long (5134103575202364 : Int64))).value args s none s [] = some true) (h1 : (Jvm.Cond.eq (Term.elem t (Term.int (1 : Int32))) (Term.long (6845471433603153 : Int64))).value args s none s [] = some true) (h2 : (Jvm.Cond.eq (Term.elem t (Term.int (2 : Int32))) (Term.long (8556839292003941 : Int64))).value args s none s [] = some true) :
    Arv s s.heap a cl.cls .long (3 : Int32) [(.long (5134103575202364 : Int64)), (.long (6845471433603153 : Int64)), (.long (8556839292003941 : Int64))] (.long (0 : Int64)) := by
  have hat : s.arrayAt? a = some cl := Arr.fin (State.Warmed39.refl s).alike A
  obtain ⟨x, y, e1, e2, -, -⟩ := cmp_v (Or.inl hl)
  obtain ⟨a', cl', l1, l2, rfl⟩ := Term.length_spec e1
  cases ev.symm.trans l1
  cases hat.symm.trans l2
  have hs : cl.slots.size < 2 ^ 31 := by
    rcases Nat.lt_or_ge cl.slots.size (2 ^ 31) with q | q
    · exact q
    · simp [Term.eval, ev, hat, Nat.not_lt.mpr q] at e1
  have hz : cl.slots.size.toInt32 = (3 : Int32) := by simpa [Cond.value, Term.eval, ev, hat, hs] using hl
  have g0 := (elem_in (eqv_l (y := 5134103575202364) rfl h0) ev (j := 0) rfl A.1).2
  have g1 := (elem_in (eqv_l (y := 6845471433603153) rfl h1) ev (j := 1) rfl A.1).2
  have g2 := (elem_in (eqv_l (y := 8556839292003941) rfl h2) ev (j := 2) rfl A.1).2
  exact Arv.start hfit A hs hz (by decide) rfl ⟨g0, g1, g2, trivial⟩
theorem d1_0 : decode prog_47_method_14_code 0 = .ok (.getstatic 201, 3) := by decide +kernel
theorem d1_3 : decode prog_47_method_14_code 3 = .ok (.iconst 0, 1) := by decide +kernel
theorem d1_4 : decode prog_47_method_14_code 4 = .ok (.laload, 1) := by decide +kernel
theorem d1_5 : decode prog_47_method_14_code 5 = .ok (.lload_n 0, 1) := by decide +kernel
theorem d1_6 : decode prog_47_method_14_code 6 = .ok (.lsub, 1) := by decide +kernel
theorem d1_7 : decode prog_47_method_14_code 7 = .ok (.bipush 63, 2) := by decide +kernel
theorem d1_9 : decode prog_47_method_14_code 9 = .ok (.lushr, 1) := by decide +kernel
theorem d1_10 : decode prog_47_method_14_code 10 = .ok (.getstatic 201, 3) := by decide +kernel
theorem d1_13 : decode prog_47_method_14_code 13 = .ok (.iconst 1, 1) := by decide +kernel
theorem d1_14 : decode prog_47_method_14_code 14 = .ok (.laload, 1) := by decide +kernel
theorem d1_15 : decode prog_47_method_14_code 15 = .ok (.lload_n 0, 1) := by decide +kernel
theorem d1_16 : decode prog_47_method_14_code 16 = .ok (.lsub, 1) := by decide +kernel
theorem d1_17 : decode prog_47_method_14_code 17 = .ok (.bipush 63, 2) := by decide +kernel
theorem d1_19 : decode prog_47_method_14_code 19 = .ok (.lushr, 1) := by decide +kernel
theorem d1_20 : decode prog_47_method_14_code 20 = .ok (.ladd, 1) := by decide +kernel
theorem d1_21 : decode prog_47_method_14_code 21 = .ok (.getstatic 201, 3) := by decide +kernel
theorem d1_24 : decode prog_47_method_14_code 24 = .ok (.iconst 2, 1) := by decide +kernel
theorem d1_25 : decode prog_47_method_14_code 25 = .ok (.laload, 1) := by decide +kernel
theorem d1_26 : decode prog_47_method_14_code 26 = .ok (.lload_n 0, 1) := by decide +kernel
theorem d1_27 : decode prog_47_method_14_code 27 = .ok (.lsub, 1) := by decide +kernel
theorem d1_28 : decode prog_47_method_14_code 28 = .ok (.bipush 63, 2) := by decide +kernel
theorem d1_30 : decode prog_47_method_14_code 30 = .ok (.lushr, 1) := by decide +kernel
theorem d1_31 : decode prog_47_method_14_code 31 = .ok (.ladd, 1) := by decide +kernel
theorem d1_32 : decode prog_47_method_14_code 32 = .ok (.l2i, 1) := by decide +kernel
theorem d1_33 : decode prog_47_method_14_code 33 = .ok (.ireturn, 1) := by decide +kernel
theorem pn_1 : plainName "org/ranktide/graph/RMat" = true := by first | (simp [plainName, overriddenIn]; done) | decide +kernel
theorem ef_1 (m : MethodId) (x0 : Int64) : entryFrame m #[(.long x0)] 2 = mkF m 0 #[.val (.long x0), .second] [] := by first | (simp [entryFrame, mkF, argsToLocals, Value.category]; done) | rfl
def Q1 (Z : State) (p1 : Int64) (xu : Addr) (ku : ClassId) (h0 : Heap) (n0 : Nat) (v : Option Value) (h : Heap) (L : List Loc) : Prop := ∃ (r : Int32), v = some (.int r) ∧ (r = own_pair p1) ∧ Fr n0 L ∧ h = h0
set_option maxRecDepth 65536 in
set_option maxHeartbeats 40000000 in
theorem rm1 (l : Launch) (Z : State) (a0 : Array Value) (hw : ∀ d ∈ tables_1, d.before a0 Z = true) (ws : List Jvm.Cond) (p1 : Int64) (xu : Addr) (ku : ClassId) (h0 : Heap) (n0 : Nat) (Z0 : n0 ≤ h0.size) (P0 : Arv Z h0 xu ku .long (3 : Int32) [(.long (5134103575202364 : Int64)), (.long (6845471433603153 : Int64)), (.long (8556839292003941 : Int64))] (.long (0 : Int64))) (P1 : Old Z n0 h0) (SU : Sta Z Z.heap "org/ranktide/graph/RMat" "UP_TO" "[J" (.ref xu)) :
    MetFree l (⟨"org/ranktide/graph/RMat", "pair", "(J)I"⟩ : MethodName) (head1 (Jvm.Cond.code (⟨"org/ranktide/graph/RMat", "pair", "(J)I"⟩ : MethodName) prog_47_method_14_code 2 (some .int) :: ws) ({ frames := 0, cells := 0, slots := 0, locals := 0 } : Room)) (fun a U => a = #[(.long p1)] ∧ Z.Warmed39 U.vm ∧ U.heap = h0) (fun _ _ _ _ _ => True) (fun _ U o U' => ∃ v L, o = .returned v ∧ Q1 Z p1 xu ku h0 n0 v U'.heap L ∧ FrameEnd U o U' L ({ frames := 0, cells := 0, slots := 0, locals := 0 } : Room).cells ({ frames := 0, cells := 0, slots := 0, locals := 0 } : Room).slots) := by
  refine MetFree.of_bodySF (plainFor_of_name pn_1) hisR ?_
  intro p e s m args below meth c s₁ Bd hml0 hP hK
  obtain ⟨rfl, hZ, hh⟩ := hP
  have hx := Bd.exec
  have hby := Bd.bytes
  have hml : c.maxLocals = 2 := hml0
  have hown : s.vm.findClass "org/ranktide/graph/RMat" = some m.cls := findClass_of_methodNamed Bd.named
  have hnm := (name_of_methodNamed Bd.named Bd.method).1
  have X0 : Stand p l e ({ frames := 0, cells := 0, slots := 0, locals := 0 } : Room) s m #[(.long p1)] below meth c s₁ [] 0 0 := Stand.of_body Bd
  have e0 : s₁.heap = h0 := by rw [← hh, Bd.state]; rfl
  have N0 := Fr.nil n0
  suffices G0 : ∀ K : State → Prop, (∀ (n : State) (v : Option Value) (L : List Loc), n.status = .running → Ended n below (.returned v) → Q1 Z p1 xu ku h0 n0 v n.heap L → FrameEnd s (.returned v) n L ({ frames := 0, cells := 0, slots := 0, locals := 0 } : Room).cells ({ frames := 0, cells := 0, slots := 0, locals := 0 } : Room).slots → K n) → own_Go p e below K (s₁.setTop (mkF m 0 #[.val (.long p1), .second] [])) by
    obtain ⟨t, st, o, a, b, v, L, e1, q, fe⟩ := G0 (fun n => ∃ o, n.status = .running ∧ Ended n below o ∧ ∃ v L, o = .returned v ∧ Q1 Z p1 xu ku h0 n0 v n.heap L ∧ FrameEnd s o n L ({ frames := 0, cells := 0, slots := 0, locals := 0 } : Room).cells ({ frames := 0, cells := 0, slots := 0, locals := 0 } : Room).slots) (fun n v L a b q f => ⟨_, a, b, v, L, rfl, q, f⟩)
    exact ⟨t, o, castTop (ef_1 m p1) st, a, b, v, L, e1, q, fe⟩
  intro K fin
  show own_Go p e below K (s₁.setTop (mkF m 0 #[.val (.long p1), .second] []))
  obtain ⟨T1, X1, e1, st1⟩ := getS2 X0 hx hZ hown (host := "") (Or.inl (hw _ (List.mem_of_getElem? (i := 5) rfl))) Via.refl e0 (SU.ext P1.2) (g := (mkF m 0 #[.val (.long p1), .second] [])) rfl (hb hby d1_0)
  refine own_st st1 ?_
  show own_Go p e below K (T1.setTop (mkF m 3 #[.val (.long p1), .second] [(.ref xu)]))
  try clear st1
  refine own_st (fun t k => XS.iconst X1.here hx rfl (hb hby d1_3) k) ?_
  show own_Go p e below K (T1.setTop (mkF m 4 #[.val (.long p1), .second] [(.int (0 : Int32)), (.ref xu)]))
  obtain ⟨cl2, Ar2, qa2, Sa2, Ma2, Ha2, Ga2⟩ := id P0
  have hin2 : ¬ ((0 : Int32) < 0 ∨ cl2.slots.size ≤ ((0 : Int32)).toNatClampNeg) := inb_of Sa2 ⟨by decide, by decide⟩
  refine own_st (X1.laload hx (j := (0 : Int32)) (v := (.long (5134103575202364 : Int64))) (own_hat e1 Ar2.1) (State.isArrayOf_alike hZ.alike Ar2.2.1) Ar2.2.2 hin2 (Has.at Ha2 hin2 rfl) (g := (mkF m 4 #[.val (.long p1), .second] [(.int (0 : Int32)), (.ref xu)])) rfl rfl (hb hby d1_4)) ?_
  show own_Go p e below K (T1.setTop (mkF m 5 #[.val (.long p1), .second] [(.long (5134103575202364 : Int64))]))
  refine own_st (fun t k => XS.lloadN X1.here hx rfl (hb hby d1_5) rfl k) ?_
  show own_Go p e below K (T1.setTop (mkF m 6 #[.val (.long p1), .second] [(.long p1), (.long (5134103575202364 : Int64))]))
  refine own_st (fun t k => XS.lsub X1.here hx rfl (hb hby d1_6) rfl k) ?_
  show own_Go p e below K (T1.setTop (mkF m 7 #[.val (.long p1), .second] [(.long ((5134103575202364 : Int64) - p1))]))
  refine own_st (fun t k => XS.bipush X1.here hx rfl (hb hby d1_7) k) ?_
  show own_Go p e below K (T1.setTop (mkF m 9 #[.val (.long p1), .second] [(.int (63 : Int32)), (.long ((5134103575202364 : Int64) - p1))]))
  refine own_st (fun t k => XS.lushr X1.here hx rfl (hb hby d1_9) rfl k) ?_
  show own_Go p e below K (T1.setTop (mkF m 10 #[.val (.long p1), .second] [(.long ((((5134103575202364 : Int64) - p1).toUInt64 >>> ((63 : Int32) &&& 0x3f).toInt64.toUInt64).toInt64))]))
  obtain ⟨T3, X3, e3, st3⟩ := getS2 X1 hx hZ hown (host := "") (Or.inl (hw _ (List.mem_of_getElem? (i := 5) rfl))) Via.refl e1 (SU.ext P1.2) (g := (mkF m 10 #[.val (.long p1), .second] [(.long ((((5134103575202364 : Int64) - p1).toUInt64 >>> ((63 : Int32) &&& 0x3f).toInt64.toUInt64).toInt64))])) rfl (hb hby d1_10)
  refine own_st st3 ?_
  show own_Go p e below K (T3.setTop (mkF m 13 #[.val (.long p1), .second] [(.ref xu), (.long ((((5134103575202364 : Int64) - p1).toUInt64 >>> ((63 : Int32) &&& 0x3f).toInt64.toUInt64).toInt64))]))
  try clear X1 e1 st3
  refine own_st (fun t k => XS.iconst X3.here hx rfl (hb hby d1_13) k) ?_
  show own_Go p e below K (T3.setTop (mkF m 14 #[.val (.long p1), .second] [(.int (1 : Int32)), (.ref xu), (.long ((((5134103575202364 : Int64) - p1).toUInt64 >>> ((63 : Int32) &&& 0x3f).toInt64.toUInt64).toInt64))]))
  obtain ⟨cl4, Ar4, qa4, Sa4, Ma4, Ha4, Ga4⟩ := id P0
  have hin4 : ¬ ((1 : Int32) < 0 ∨ cl4.slots.size ≤ ((1 : Int32)).toNatClampNeg) := inb_of Sa4 ⟨by decide, by decide⟩
  refine own_st (X3.laload hx (j := (1 : Int32)) (v := (.long (6845471433603153 : Int64))) (own_hat e3 Ar4.1) (State.isArrayOf_alike hZ.alike Ar4.2.1) Ar4.2.2 hin4 (Has.at Ha4 hin4 rfl) (g := (mkF m 14 #[.val (.long p1), .second] [(.int (1 : Int32)), (.ref xu), (.long ((((5134103575202364 : Int64) - p1).toUInt64 >>> ((63 : Int32) &&& 0x3f).toInt64.toUInt64).toInt64))])) rfl rfl (hb hby d1_14)) ?_
  show own_Go p e below K (T3.setTop (mkF m 15 #[.val (.long p1), .second] [(.long (6845471433603153 : Int64)), (.long ((((5134103575202364 : Int64) - p1).toUInt64 >>> ((63 : Int32) &&& 0x3f).toInt64.toUInt64).toInt64))]))
  refine own_st (fun t k => XS.lloadN X3.here hx rfl (hb hby d1_15) rfl k) ?_
  show own_Go p e below K (T3.setTop (mkF m 16 #[.val (.long p1), .second] [(.long p1), (.long (6845471433603153 : Int64)), (.long ((((5134103575202364 : Int64) - p1).toUInt64 >>> ((63 : Int32) &&& 0x3f).toInt64.toUInt64).toInt64))]))
  refine own_st (fun t k => XS.lsub X3.here hx rfl (hb hby d1_16) rfl k) ?_
  show own_Go p e below K (T3.setTop (mkF m 17 #[.val (.long p1), .second] [(.long ((6845471433603153 : Int64) - p1)), (.long ((((5134103575202364 : Int64) - p1).toUInt64 >>> ((63 : Int32) &&& 0x3f).toInt64.toUInt64).toInt64))]))
  refine own_st (fun t k => XS.bipush X3.here hx rfl (hb hby d1_17) k) ?_
  show own_Go p e below K (T3.setTop (mkF m 19 #[.val (.long p1), .second] [(.int (63 : Int32)), (.long ((6845471433603153 : Int64) - p1)), (.long ((((5134103575202364 : Int64) - p1).toUInt64 >>> ((63 : Int32) &&& 0x3f).toInt64.toUInt64).toInt64))]))
  refine own_st (fun t k => XS.lushr X3.here hx rfl (hb hby d1_19) rfl k) ?_
  show own_Go p e below K (T3.setTop (mkF m 20 #[.val (.long p1), .second] [(.long ((((6845471433603153 : Int64) - p1).toUInt64 >>> ((63 : Int32) &&& 0x3f).toInt64.toUInt64).toInt64)), (.long ((((5134103575202364 : Int64) - p1).toUInt64 >>> ((63 : Int32) &&& 0x3f).toInt64.toUInt64).toInt64))]))
  refine own_st (fun t k => XS.ladd X3.here hx rfl (hb hby d1_20) rfl k) ?_
  show own_Go p e below K (T3.setTop (mkF m 21 #[.val (.long p1), .second] [(.long (((((5134103575202364 : Int64) - p1).toUInt64 >>> ((63 : Int32) &&& 0x3f).toInt64.toUInt64).toInt64) + ((((6845471433603153 : Int64) - p1).toUInt64 >>> ((63 : Int32) &&& 0x3f).toInt64.toUInt64).toInt64)))]))
  obtain ⟨T5, X5, e5, st5⟩ := getS2 X3 hx hZ hown (host := "") (Or.inl (hw _ (List.mem_of_getElem? (i := 5) rfl))) Via.refl e3 (SU.ext P1.2) (g := (mkF m 21 #[.val (.long p1), .second] [(.long (((((5134103575202364 : Int64) - p1).toUInt64 >>> ((63 : Int32) &&& 0x3f).toInt64.toUInt64).toInt64) + ((((6845471433603153 : Int64) - p1).toUInt64 >>> ((63 : Int32) &&& 0x3f).toInt64.toUInt64).toInt64)))])) rfl (hb hby d1_21)
  refine own_st st5 ?_
  show own_Go p e below K (T5.setTop (mkF m 24 #[.val (.long p1), .second] [(.ref xu), (.long (((((5134103575202364 : Int64) - p1).toUInt64 >>> ((63 : Int32) &&& 0x3f).toInt64.toUInt64).toInt64) + ((((6845471433603153 : Int64) - p1).toUInt64 >>> ((63 : Int32) &&& 0x3f).toInt64.toUInt64).toInt64)))]))
  try clear X3 e3 st5
  refine own_st (fun t k => XS.iconst X5.here hx rfl (hb hby d1_24) k) ?_
  show own_Go p e below K (T5.setTop (mkF m 25 #[.val (.long p1), .second] [(.int (2 : Int32)), (.ref xu), (.long (((((5134103575202364 : Int64) - p1).toUInt64 >>> ((63 : Int32) &&& 0x3f).toInt64.toUInt64).toInt64) + ((((6845471433603153 : Int64) - p1).toUInt64 >>> ((63 : Int32) &&& 0x3f).toInt64.toUInt64).toInt64)))]))
  obtain ⟨cl6, Ar6, qa6, Sa6, Ma6, Ha6, Ga6⟩ := id P0
  have hin6 : ¬ ((2 : Int32) < 0 ∨ cl6.slots.size ≤ ((2 : Int32)).toNatClampNeg) := inb_of Sa6 ⟨by decide, by decide⟩
  refine own_st (X5.laload hx (j := (2 : Int32)) (v := (.long (8556839292003941 : Int64))) (own_hat e5 Ar6.1) (State.isArrayOf_alike hZ.alike Ar6.2.1) Ar6.2.2 hin6 (Has.at Ha6 hin6 rfl) (g := (mkF m 25 #[.val (.long p1), .second] [(.int (2 : Int32)), (.ref xu), (.long (((((5134103575202364 : Int64) - p1).toUInt64 >>> ((63 : Int32) &&& 0x3f).toInt64.toUInt64).toInt64) + ((((6845471433603153 : Int64) - p1).toUInt64 >>> ((63 : Int32) &&& 0x3f).toInt64.toUInt64).toInt64)))])) rfl rfl (hb hby d1_25)) ?_
  show own_Go p e below K (T5.setTop (mkF m 26 #[.val (.long p1), .second] [(.long (8556839292003941 : Int64)), (.long (((((5134103575202364 : Int64) - p1).toUInt64 >>> ((63 : Int32) &&& 0x3f).toInt64.toUInt64).toInt64) + ((((6845471433603153 : Int64) - p1).toUInt64 >>> ((63 : Int32) &&& 0x3f).toInt64.toUInt64).toInt64)))]))
  refine own_st (fun t k => XS.lloadN X5.here hx rfl (hb hby d1_26) rfl k) ?_
  show own_Go p e below K (T5.setTop (mkF m 27 #[.val (.long p1), .second] [(.long p1), (.long (8556839292003941 : Int64)), (.long (((((5134103575202364 : Int64) - p1).toUInt64 >>> ((63 : Int32) &&& 0x3f).toInt64.toUInt64).toInt64) + ((((6845471433603153 : Int64) - p1).toUInt64 >>> ((63 : Int32) &&& 0x3f).toInt64.toUInt64).toInt64)))]))
  refine own_st (fun t k => XS.lsub X5.here hx rfl (hb hby d1_27) rfl k) ?_
  show own_Go p e below K (T5.setTop (mkF m 28 #[.val (.long p1), .second] [(.long ((8556839292003941 : Int64) - p1)), (.long (((((5134103575202364 : Int64) - p1).toUInt64 >>> ((63 : Int32) &&& 0x3f).toInt64.toUInt64).toInt64) + ((((6845471433603153 : Int64) - p1).toUInt64 >>> ((63 : Int32) &&& 0x3f).toInt64.toUInt64).toInt64)))]))
  refine own_st (fun t k => XS.bipush X5.here hx rfl (hb hby d1_28) k) ?_
  show own_Go p e below K (T5.setTop (mkF m 30 #[.val (.long p1), .second] [(.int (63 : Int32)), (.long ((8556839292003941 : Int64) - p1)), (.long (((((5134103575202364 : Int64) - p1).toUInt64 >>> ((63 : Int32) &&& 0x3f).toInt64.toUInt64).toInt64) + ((((6845471433603153 : Int64) - p1).toUInt64 >>> ((63 : Int32) &&& 0x3f).toInt64.toUInt64).toInt64)))]))
  refine own_st (fun t k => XS.lushr X5.here hx rfl (hb hby d1_30) rfl k) ?_
  show own_Go p e below K (T5.setTop (mkF m 31 #[.val (.long p1), .second] [(.long ((((8556839292003941 : Int64) - p1).toUInt64 >>> ((63 : Int32) &&& 0x3f).toInt64.toUInt64).toInt64)), (.long (((((5134103575202364 : Int64) - p1).toUInt64 >>> ((63 : Int32) &&& 0x3f).toInt64.toUInt64).toInt64) + ((((6845471433603153 : Int64) - p1).toUInt64 >>> ((63 : Int32) &&& 0x3f).toInt64.toUInt64).toInt64)))]))
  refine own_st (fun t k => XS.ladd X5.here hx rfl (hb hby d1_31) rfl k) ?_
  show own_Go p e below K (T5.setTop (mkF m 32 #[.val (.long p1), .second] [(.long ((((((5134103575202364 : Int64) - p1).toUInt64 >>> ((63 : Int32) &&& 0x3f).toInt64.toUInt64).toInt64) + ((((6845471433603153 : Int64) - p1).toUInt64 >>> ((63 : Int32) &&& 0x3f).toInt64.toUInt64).toInt64)) + ((((8556839292003941 : Int64) - p1).toUInt64 >>> ((63 : Int32) &&& 0x3f).toInt64.toUInt64).toInt64)))]))
  refine own_st (fun t k => XS.l2i X5.here hx rfl (hb hby d1_32) rfl k) ?_
  show own_Go p e below K (T5.setTop (mkF m 33 #[.val (.long p1), .second] [(.int (((((((5134103575202364 : Int64) - p1).toUInt64 >>> ((63 : Int32) &&& 0x3f).toInt64.toUInt64).toInt64) + ((((6845471433603153 : Int64) - p1).toUInt64 >>> ((63 : Int32) &&& 0x3f).toInt64.toUInt64).toInt64)) + ((((8556839292003941 : Int64) - p1).toUInt64 >>> ((63 : Int32) &&& 0x3f).toInt64.toUInt64).toInt64)).toInt32))]))
  obtain ⟨fs, hr, hrun, hended, hW, hsame⟩ := X5.leave (v := some (.int (((((((5134103575202364 : Int64) - p1).toUInt64 >>> ((63 : Int32) &&& 0x3f).toInt64.toUInt64).toInt64) + ((((6845471433603153 : Int64) - p1).toUInt64 >>> ((63 : Int32) &&& 0x3f).toInt64.toUInt64).toInt64)) + ((((8556839292003941 : Int64) - p1).toUInt64 >>> ((63 : Int32) &&& 0x3f).toInt64.toUInt64).toInt64)).toInt32))) (fun h => by rw [Bd.returns] at h; cases h)
  refine ⟨_, retI X5 hx Bd.returns (hb hby d1_33) hr, fin _ _ _ hrun hended ?_ ⟨⟨_, rfl⟩, hW, hsame.mono (by decide) (by decide)⟩⟩
  show Q1 Z p1 xu ku h0 n0 _ T5.heap _
  rw [e5]
  exact ⟨_, rfl, rfl, N0, rfl⟩
theorem d2_0 : decode method_2_code 0 = .ok (.lload_n 0, 1) := by decide +kernel
theorem d2_1 : decode method_2_code 1 = .ok (.l2d, 1) := by decide +kernel
theorem d2_2 : decode method_2_code 2 = .ok (.ldc2_w 7, 3) := by decide +kernel
theorem d2_5 : decode method_2_code 5 = .ok (.dmul, 1) := by decide +kernel
theorem d2_6 : decode method_2_code 6 = .ok (.dstore_n 2, 1) := by decide +kernel
theorem d2_7 : decode method_2_code 7 = .ok (.dload_n 2, 1) := by decide +kernel
theorem d2_8 : decode method_2_code 8 = .ok (.ldc2_w 9, 3) := by decide +kernel
theorem d2_11 : decode method_2_code 11 = .ok (.dcmp .g, 1) := by decide +kernel
theorem d2_12 : decode method_2_code 12 = .ok (.ifCond .ge 5, 3) := by decide +kernel
theorem d2_15 : decode method_2_code 15 = .ok (.iconst 0, 1) := by decide +kernel
theorem d2_16 : decode method_2_code 16 = .ok (.ireturn, 1) := by decide +kernel
theorem d2_17 : decode method_2_code 17 = .ok (.dload_n 2, 1) := by decide +kernel
theorem d2_18 : decode method_2_code 18 = .ok (.ldc2_w 11, 3) := by decide +kernel
theorem d2_21 : decode method_2_code 21 = .ok (.dcmp .g, 1) := by decide +kernel
theorem d2_22 : decode method_2_code 22 = .ok (.ifCond .ge 5, 3) := by decide +kernel
theorem d2_25 : decode method_2_code 25 = .ok (.iconst 1, 1) := by decide +kernel
theorem d2_26 : decode method_2_code 26 = .ok (.ireturn, 1) := by decide +kernel
theorem d2_27 : decode method_2_code 27 = .ok (.dload_n 2, 1) := by decide +kernel
theorem d2_28 : decode method_2_code 28 = .ok (.ldc2_w 13, 3) := by decide +kernel
theorem d2_31 : decode method_2_code 31 = .ok (.dcmp .g, 1) := by decide +kernel
theorem d2_32 : decode method_2_code 32 = .ok (.ifCond .ge 5, 3) := by decide +kernel
theorem d2_35 : decode method_2_code 35 = .ok (.iconst 2, 1) := by decide +kernel
theorem d2_36 : decode method_2_code 36 = .ok (.ireturn, 1) := by decide +kernel
theorem d2_37 : decode method_2_code 37 = .ok (.iconst 3, 1) := by decide +kernel
theorem d2_38 : decode method_2_code 38 = .ok (.ireturn, 1) := by decide +kernel
theorem pn_2 : plainName "org/ranktide/graph/RMatPairPinLaw" = true := by first | (simp [plainName, overriddenIn]; done) | decide +kernel
theorem ef_2 (m : MethodId) (x0 : Int64) : entryFrame m #[(.long x0)] 4 = mkF m 0 #[.val (.long x0), .second, .unset, .unset] [] := by first | (simp [entryFrame, mkF, argsToLocals, Value.category]; done) | rfl
def Q2 (Z : State) (p1 : Int64) (h0 : Heap) (n0 : Nat) (v : Option Value) (h : Heap) (L : List Loc) : Prop := ∃ (r : Int32), v = some (.int r) ∧ (r = own_exp p1) ∧ Fr n0 L ∧ h = h0
set_option maxRecDepth 65536 in
set_option maxHeartbeats 40000000 in
theorem rm2 (l : Launch) (Z : State) (a0 : Array Value) (hw : ∀ d ∈ tables_1, d.before a0 Z = true) (ws : List Jvm.Cond) (p1 : Int64) (h0 : Heap) (n0 : Nat) (Z0 : n0 ≤ h0.size) (hbd : 0 ≤ p1.toInt ∧ p1.toInt < 9007199254740992) :
    MetFree l (⟨"org/ranktide/graph/RMatPairPinLaw", "expected", "(J)I"⟩ : MethodName) (head1 (Jvm.Cond.code (⟨"org/ranktide/graph/RMatPairPinLaw", "expected", "(J)I"⟩ : MethodName) method_2_code 4 (some .int) :: ws) ({ frames := 0, cells := 0, slots := 0, locals := 0 } : Room)) (fun a U => a = #[(.long p1)] ∧ Z.Warmed39 U.vm ∧ U.heap = h0) (fun _ _ _ _ _ => True) (fun _ U o U' => ∃ v L, o = .returned v ∧ Q2 Z p1 h0 n0 v U'.heap L ∧ FrameEnd U o U' L ({ frames := 0, cells := 0, slots := 0, locals := 0 } : Room).cells ({ frames := 0, cells := 0, slots := 0, locals := 0 } : Room).slots) := by
  refine MetFree.of_bodySF (plainFor_of_name pn_2) hisR ?_
  intro p e s m args below meth c s₁ Bd hml0 hP hK
  obtain ⟨rfl, hZ, hh⟩ := hP
  have hx := Bd.exec
  have hby := Bd.bytes
  have hml : c.maxLocals = 4 := hml0
  have hown : s.vm.findClass "org/ranktide/graph/RMatPairPinLaw" = some m.cls := findClass_of_methodNamed Bd.named
  have hnm := (name_of_methodNamed Bd.named Bd.method).1
  have X0 : Stand p l e ({ frames := 0, cells := 0, slots := 0, locals := 0 } : Room) s m #[(.long p1)] below meth c s₁ [] 0 0 := Stand.of_body Bd
  have e0 : s₁.heap = h0 := by rw [← hh, Bd.state]; rfl
  have N0 := Fr.nil n0
  suffices G0 : ∀ K : State → Prop, (∀ (n : State) (v : Option Value) (L : List Loc), n.status = .running → Ended n below (.returned v) → Q2 Z p1 h0 n0 v n.heap L → FrameEnd s (.returned v) n L ({ frames := 0, cells := 0, slots := 0, locals := 0 } : Room).cells ({ frames := 0, cells := 0, slots := 0, locals := 0 } : Room).slots → K n) → own_Go p e below K (s₁.setTop (mkF m 0 #[.val (.long p1), .second, .unset, .unset] [])) by
    obtain ⟨t, st, o, a, b, v, L, e1, q, fe⟩ := G0 (fun n => ∃ o, n.status = .running ∧ Ended n below o ∧ ∃ v L, o = .returned v ∧ Q2 Z p1 h0 n0 v n.heap L ∧ FrameEnd s o n L ({ frames := 0, cells := 0, slots := 0, locals := 0 } : Room).cells ({ frames := 0, cells := 0, slots := 0, locals := 0 } : Room).slots) (fun n v L a b q f => ⟨_, a, b, v, L, rfl, q, f⟩)
    exact ⟨t, o, castTop (ef_2 m p1) st, a, b, v, L, e1, q, fe⟩
  intro K fin
  show own_Go p e below K (s₁.setTop (mkF m 0 #[.val (.long p1), .second, .unset, .unset] []))
  refine own_st (fun t k => XS.lloadN X0.here hx rfl (hb hby d2_0) rfl k) ?_
  show own_Go p e below K (s₁.setTop (mkF m 1 #[.val (.long p1), .second, .unset, .unset] [(.long p1)]))
  refine own_st (fun t k => XS.l2dS X0.here hx rfl (hb hby d2_1) rfl rfl k) ?_
  show own_Go p e below K (s₁.setTop (mkF m 2 #[.val (.long p1), .second, .unset, .unset] [(.double (FP.l2d p1))]))
  refine own_st (X0.ldc2DoubleC hx hown (mvT hZ (hw _ (List.mem_of_getElem? (i := 11) rfl))) (g := (mkF m 2 #[.val (.long p1), .second, .unset, .unset] [(.double (FP.l2d p1))])) rfl (hb hby d2_2)) ?_
  show own_Go p e below K (s₁.setTop (mkF m 5 #[.val (.long p1), .second, .unset, .unset] [(.double (4368491638549381120 : UInt64)), (.double (FP.l2d p1))]))
  refine own_st (fun t k => XS.dmulS X0.here hx rfl (hb hby d2_5) rfl (own_dn hbd) rfl k) ?_
  show own_Go p e below K (s₁.setTop (mkF m 6 #[.val (.long p1), .second, .unset, .unset] [(.double (FP.dmul (FP.l2d p1) (4368491638549381120 : UInt64)))]))
  refine own_st (fun t k => XS.dstoreN X0.here hx rfl (hb hby d2_6) rfl (l' := #[.val (.long p1), .second, .val (.double (FP.dmul (FP.l2d p1) (4368491638549381120 : UInt64))), .second]) rfl k) ?_
  show own_Go p e below K (s₁.setTop (mkF m 7 #[.val (.long p1), .second, .val (.double (FP.dmul (FP.l2d p1) (4368491638549381120 : UInt64))), .second] []))
  refine own_st (fun t k => XS.dloadN X0.here hx rfl (hb hby d2_7) rfl k) ?_
  show own_Go p e below K (s₁.setTop (mkF m 8 #[.val (.long p1), .second, .val (.double (FP.dmul (FP.l2d p1) (4368491638549381120 : UInt64))), .second] [(.double (FP.dmul (FP.l2d p1) (4368491638549381120 : UInt64)))]))
  refine own_st (X0.ldc2DoubleC hx hown (mvT hZ (hw _ (List.mem_of_getElem? (i := 12) rfl))) (g := (mkF m 8 #[.val (.long p1), .second, .val (.double (FP.dmul (FP.l2d p1) (4368491638549381120 : UInt64))), .second] [(.double (FP.dmul (FP.l2d p1) (4368491638549381120 : UInt64)))])) rfl (hb hby d2_8)) ?_
  show own_Go p e below K (s₁.setTop (mkF m 11 #[.val (.long p1), .second, .val (.double (FP.dmul (FP.l2d p1) (4368491638549381120 : UInt64))), .second] [(.double (4603309323120478781 : UInt64)), (.double (FP.dmul (FP.l2d p1) (4368491638549381120 : UInt64)))]))
  refine own_st (fun t k => XS.dcmpS X0.here hx rfl (hb hby d2_11) rfl (own_dl (d := 5134103575202365) hbd own_c1 (by decide)) k) ?_
  show own_Go p e below K (s₁.setTop (mkF m 12 #[.val (.long p1), .second, .val (.double (FP.dmul (FP.l2d p1) (4368491638549381120 : UInt64))), .second] [(.int (lcmpW p1 (5134103575202365 : Int64)))]))
  by_cases hc12 : p1 < (5134103575202365 : Int64)
  · refine own_st (fun t k => XS.ifNo X0.here hx rfl (hb hby d2_12) rfl ((if0 _ _).trans (tlt ((lw_lt p1 (5134103575202365 : Int64)).mpr hc12)).2.1) k) ?_
    show own_Go p e below K (s₁.setTop (mkF m 15 #[.val (.long p1), .second, .val (.double (FP.dmul (FP.l2d p1) (4368491638549381120 : UInt64))), .second] []))
    refine own_st (fun t k => XS.iconst X0.here hx rfl (hb hby d2_15) k) ?_
    show own_Go p e below K (s₁.setTop (mkF m 16 #[.val (.long p1), .second, .val (.double (FP.dmul (FP.l2d p1) (4368491638549381120 : UInt64))), .second] [(.int (0 : Int32))]))
    obtain ⟨fs, hr, hrun, hended, hW, hsame⟩ := X0.leave (v := some (.int (0 : Int32))) (fun h => by rw [Bd.returns] at h; cases h)
    refine ⟨_, retI X0 hx Bd.returns (hb hby d2_16) hr, fin _ _ _ hrun hended ?_ ⟨⟨_, rfl⟩, hW, hsame.mono (by decide) (by decide)⟩⟩
    show Q2 Z p1 h0 n0 _ s₁.heap _
    rw [e0]
    exact ⟨_, rfl, (by unfold own_exp; rw [if_pos hc12]), N0, rfl⟩
  refine own_st (fun t k => XS.ifYes X0.here hx rfl (pc0 := 12) (pc' := 17) rfl (hb hby d2_12) rfl ((if0 _ _).trans (flt (fun q => hc12 ((lw_lt p1 (5134103575202365 : Int64)).mp q))).2.1) (by decide) (by decide) k) ?_
  show own_Go p e below K (s₁.setTop (mkF m 17 #[.val (.long p1), .second, .val (.double (FP.dmul (FP.l2d p1) (4368491638549381120 : UInt64))), .second] []))
  refine own_st (fun t k => XS.dloadN X0.here hx rfl (hb hby d2_17) rfl k) ?_
  show own_Go p e below K (s₁.setTop (mkF m 18 #[.val (.long p1), .second, .val (.double (FP.dmul (FP.l2d p1) (4368491638549381120 : UInt64))), .second] [(.double (FP.dmul (FP.l2d p1) (4368491638549381120 : UInt64)))]))
  refine own_st (X0.ldc2DoubleC hx hown (mvT hZ (hw _ (List.mem_of_getElem? (i := 13) rfl))) (g := (mkF m 18 #[.val (.long p1), .second, .val (.double (FP.dmul (FP.l2d p1) (4368491638549381120 : UInt64))), .second] [(.double (FP.dmul (FP.l2d p1) (4368491638549381120 : UInt64)))])) rfl (hb hby d2_18)) ?_
  show own_Go p e below K (s₁.setTop (mkF m 21 #[.val (.long p1), .second, .val (.double (FP.dmul (FP.l2d p1) (4368491638549381120 : UInt64))), .second] [(.double (4605020690978879570 : UInt64)), (.double (FP.dmul (FP.l2d p1) (4368491638549381120 : UInt64)))]))
  refine own_st (fun t k => XS.dcmpS X0.here hx rfl (hb hby d2_21) rfl (own_dl (d := 6845471433603154) hbd own_c2 (by decide)) k) ?_
  show own_Go p e below K (s₁.setTop (mkF m 22 #[.val (.long p1), .second, .val (.double (FP.dmul (FP.l2d p1) (4368491638549381120 : UInt64))), .second] [(.int (lcmpW p1 (6845471433603154 : Int64)))]))
  by_cases hc22 : p1 < (6845471433603154 : Int64)
  · refine own_st (fun t k => XS.ifNo X0.here hx rfl (hb hby d2_22) rfl ((if0 _ _).trans (tlt ((lw_lt p1 (6845471433603154 : Int64)).mpr hc22)).2.1) k) ?_
    show own_Go p e below K (s₁.setTop (mkF m 25 #[.val (.long p1), .second, .val (.double (FP.dmul (FP.l2d p1) (4368491638549381120 : UInt64))), .second] []))
    refine own_st (fun t k => XS.iconst X0.here hx rfl (hb hby d2_25) k) ?_
    show own_Go p e below K (s₁.setTop (mkF m 26 #[.val (.long p1), .second, .val (.double (FP.dmul (FP.l2d p1) (4368491638549381120 : UInt64))), .second] [(.int (1 : Int32))]))
    obtain ⟨fs, hr, hrun, hended, hW, hsame⟩ := X0.leave (v := some (.int (1 : Int32))) (fun h => by rw [Bd.returns] at h; cases h)
    refine ⟨_, retI X0 hx Bd.returns (hb hby d2_26) hr, fin _ _ _ hrun hended ?_ ⟨⟨_, rfl⟩, hW, hsame.mono (by decide) (by decide)⟩⟩
    show Q2 Z p1 h0 n0 _ s₁.heap _
    rw [e0]
    exact ⟨_, rfl, (by unfold own_exp; rw [if_neg hc12, if_pos hc22]), N0, rfl⟩
  refine own_st (fun t k => XS.ifYes X0.here hx rfl (pc0 := 22) (pc' := 27) rfl (hb hby d2_22) rfl ((if0 _ _).trans (flt (fun q => hc22 ((lw_lt p1 (6845471433603154 : Int64)).mp q))).2.1) (by decide) (by decide) k) ?_
  show own_Go p e below K (s₁.setTop (mkF m 27 #[.val (.long p1), .second, .val (.double (FP.dmul (FP.l2d p1) (4368491638549381120 : UInt64))), .second] []))
  refine own_st (fun t k => XS.dloadN X0.here hx rfl (hb hby d2_27) rfl k) ?_
  show own_Go p e below K (s₁.setTop (mkF m 28 #[.val (.long p1), .second, .val (.double (FP.dmul (FP.l2d p1) (4368491638549381120 : UInt64))), .second] [(.double (FP.dmul (FP.l2d p1) (4368491638549381120 : UInt64)))]))
  refine own_st (X0.ldc2DoubleC hx hown (mvT hZ (hw _ (List.mem_of_getElem? (i := 14) rfl))) (g := (mkF m 28 #[.val (.long p1), .second, .val (.double (FP.dmul (FP.l2d p1) (4368491638549381120 : UInt64))), .second] [(.double (FP.dmul (FP.l2d p1) (4368491638549381120 : UInt64)))])) rfl (hb hby d2_28)) ?_
  show own_Go p e below K (s₁.setTop (mkF m 31 #[.val (.long p1), .second, .val (.double (FP.dmul (FP.l2d p1) (4368491638549381120 : UInt64))), .second] [(.double (4606732058837280358 : UInt64)), (.double (FP.dmul (FP.l2d p1) (4368491638549381120 : UInt64)))]))
  refine own_st (fun t k => XS.dcmpS X0.here hx rfl (hb hby d2_31) rfl (own_dl (d := 8556839292003942) hbd own_c3 (by decide)) k) ?_
  show own_Go p e below K (s₁.setTop (mkF m 32 #[.val (.long p1), .second, .val (.double (FP.dmul (FP.l2d p1) (4368491638549381120 : UInt64))), .second] [(.int (lcmpW p1 (8556839292003942 : Int64)))]))
  by_cases hc32 : p1 < (8556839292003942 : Int64)
  · refine own_st (fun t k => XS.ifNo X0.here hx rfl (hb hby d2_32) rfl ((if0 _ _).trans (tlt ((lw_lt p1 (8556839292003942 : Int64)).mpr hc32)).2.1) k) ?_
    show own_Go p e below K (s₁.setTop (mkF m 35 #[.val (.long p1), .second, .val (.double (FP.dmul (FP.l2d p1) (4368491638549381120 : UInt64))), .second] []))
    refine own_st (fun t k => XS.iconst X0.here hx rfl (hb hby d2_35) k) ?_
    show own_Go p e below K (s₁.setTop (mkF m 36 #[.val (.long p1), .second, .val (.double (FP.dmul (FP.l2d p1) (4368491638549381120 : UInt64))), .second] [(.int (2 : Int32))]))
    obtain ⟨fs, hr, hrun, hended, hW, hsame⟩ := X0.leave (v := some (.int (2 : Int32))) (fun h => by rw [Bd.returns] at h; cases h)
    refine ⟨_, retI X0 hx Bd.returns (hb hby d2_36) hr, fin _ _ _ hrun hended ?_ ⟨⟨_, rfl⟩, hW, hsame.mono (by decide) (by decide)⟩⟩
    show Q2 Z p1 h0 n0 _ s₁.heap _
    rw [e0]
    exact ⟨_, rfl, (by unfold own_exp; rw [if_neg hc12, if_neg hc22, if_pos hc32]), N0, rfl⟩
  refine own_st (fun t k => XS.ifYes X0.here hx rfl (pc0 := 32) (pc' := 37) rfl (hb hby d2_32) rfl ((if0 _ _).trans (flt (fun q => hc32 ((lw_lt p1 (8556839292003942 : Int64)).mp q))).2.1) (by decide) (by decide) k) ?_
  show own_Go p e below K (s₁.setTop (mkF m 37 #[.val (.long p1), .second, .val (.double (FP.dmul (FP.l2d p1) (4368491638549381120 : UInt64))), .second] []))
  refine own_st (fun t k => XS.iconst X0.here hx rfl (hb hby d2_37) k) ?_
  show own_Go p e below K (s₁.setTop (mkF m 38 #[.val (.long p1), .second, .val (.double (FP.dmul (FP.l2d p1) (4368491638549381120 : UInt64))), .second] [(.int (3 : Int32))]))
  obtain ⟨fs, hr, hrun, hended, hW, hsame⟩ := X0.leave (v := some (.int (3 : Int32))) (fun h => by rw [Bd.returns] at h; cases h)
  refine ⟨_, retI X0 hx Bd.returns (hb hby d2_38) hr, fin _ _ _ hrun hended ?_ ⟨⟨_, rfl⟩, hW, hsame.mono (by decide) (by decide)⟩⟩
  show Q2 Z p1 h0 n0 _ s₁.heap _
  rw [e0]
  exact ⟨_, rfl, (by unfold own_exp; rw [if_neg hc12, if_neg hc22, if_neg hc32]), N0, rfl⟩
theorem pn_0 : plainName "org/ranktide/graph/RMatPairPinLaw" = true := by first | (simp [plainName, overriddenIn]; done) | decide +kernel
theorem pd_0_0 : parseMethodDescriptor "(J)I" = some ⟨[.long], some .int⟩ := by decide +kernel
theorem ef_0 (m : MethodId) (x0 : Int64) : entryFrame m #[(.long x0)] maxLocals = mkF m 0 #[.val (.long x0), .second, .unset, .unset, .unset] [] := by first | (simp [entryFrame, mkF, argsToLocals, Value.category, maxLocals]; done) | rfl
def Q0 (Z : State) (q1 : Int64) (xu : Addr) (ku : ClassId) (h0 : Heap) (n0 : Nat) (v : Option Value) (h : Heap) (L : List Loc) : Prop := v = some (.int 1) ∧ Fr n0 L
set_option maxRecDepth 65536 in
set_option maxHeartbeats 40000000 in
theorem rm0 (l : Launch) (Z : State) (a0 : Array Value) (hw : ∀ d ∈ tables_1, d.before a0 Z = true) (ws : List Jvm.Cond) (q1 : Int64) (xu : Addr) (ku : ClassId) (h0 : Heap) (n0 : Nat) (Z0 : n0 ≤ h0.size) (P0 : Arv Z h0 xu ku .long (3 : Int32) [(.long (5134103575202364 : Int64)), (.long (6845471433603153 : Int64)), (.long (8556839292003941 : Int64))] (.long (0 : Int64))) (P1 : Old Z n0 h0) (SU : Sta Z Z.heap "org/ranktide/graph/RMat" "UP_TO" "[J" (.ref xu)) :
    MetFree l x (head1 (Jvm.Cond.code x code maxLocals ret :: ws) room_1) (fun a U => a = #[(.long q1)] ∧ Z.Warmed39 U.vm ∧ U.heap = h0) (fun _ _ _ _ _ => True) (fun _ U o U' => ∃ v L, o = .returned v ∧ Q0 Z q1 xu ku h0 n0 v U'.heap L ∧ FrameEnd U o U' L 0 0) := by
  refine MetFree.of_bodySF (plainFor_of_name pn_0) hisR ?_
  intro p e s m args below meth c s₁ Bd hml0 hP hK
  obtain ⟨rfl, hZ, hh⟩ := hP
  have hx := Bd.exec
  have hby := Bd.bytes
  have hml : c.maxLocals = 5 := hml0
  have hown : s.vm.findClass "org/ranktide/graph/RMatPairPinLaw" = some m.cls := findClass_of_methodNamed Bd.named
  have hnm := (name_of_methodNamed Bd.named Bd.method).1
  have X0 : Stand p l e room_1 s m #[(.long q1)] below meth c s₁ [] 0 0 := Stand.of_body Bd
  have e0 : s₁.heap = h0 := by rw [← hh, Bd.state]; rfl
  have N0 := Fr.nil n0
  suffices G0 : ∀ K : State → Prop, (∀ (n : State) (v : Option Value) (L : List Loc), n.status = .running → Ended n below (.returned v) → Q0 Z q1 xu ku h0 n0 v n.heap L → FrameEnd s (.returned v) n L 0 0 → K n) → own_Go p e below K (s₁.setTop (mkF m 0 #[.val (.long q1), .second, .unset, .unset, .unset] [])) by
    obtain ⟨t, st, o, a, b, v, L, e1, q, fe⟩ := G0 (fun n => ∃ o, n.status = .running ∧ Ended n below o ∧ ∃ v L, o = .returned v ∧ Q0 Z q1 xu ku h0 n0 v n.heap L ∧ FrameEnd s o n L 0 0) (fun n v L a b q f => ⟨_, a, b, v, L, rfl, q, f⟩)
    exact ⟨t, o, castTop (ef_0 m q1) st, a, b, v, L, e1, q, fe⟩
  intro K fin
  show own_Go p e below K (s₁.setTop (mkF m 0 #[.val (.long q1), .second, .unset, .unset, .unset] []))
  refine own_st (fun t k => XS.lloadN X0.here hx rfl (hb hby at_0) rfl k) ?_
  show own_Go p e below K (s₁.setTop (mkF m 1 #[.val (.long q1), .second, .unset, .unset, .unset] [(.long q1)]))
  refine own_st (X0.ldc2Long hx hown (mvT hZ (hw _ (List.mem_of_getElem? (i := 0) rfl))) (g := (mkF m 1 #[.val (.long q1), .second, .unset, .unset, .unset] [(.long q1)])) rfl (hb hby at_1)) ?_
  show own_Go p e below K (s₁.setTop (mkF m 4 #[.val (.long q1), .second, .unset, .unset, .unset] [(.long (9007199254740991 : Int64)), (.long q1)]))
  refine own_st (fun t k => XS.land X0.here hx rfl (hb hby at_4) rfl k) ?_
  show own_Go p e below K (s₁.setTop (mkF m 5 #[.val (.long q1), .second, .unset, .unset, .unset] [(.long (q1 &&& (9007199254740991 : Int64)))]))
  generalize hu : (q1 &&& (9007199254740991 : Int64)) = u
  show own_Go p e below K (s₁.setTop (mkF m 5 #[.val (.long q1), .second, .unset, .unset, .unset] [(.long u)]))
  have hbd := own_mask hu
  refine own_st (fun t k => XS.lstoreN X0.here hx rfl (hb hby at_5) rfl (l' := #[.val (.long q1), .second, .val (.long u), .second, .unset]) rfl k) ?_
  show own_Go p e below K (s₁.setTop (mkF m 6 #[.val (.long q1), .second, .val (.long u), .second, .unset] []))
  refine own_st (fun t k => XS.lloadN X0.here hx rfl (hb hby at_6) rfl k) ?_
  show own_Go p e below K (s₁.setTop (mkF m 7 #[.val (.long q1), .second, .val (.long u), .second, .unset] [(.long u)]))
  obtain ⟨_, _, ⟨T1, L1, k1, n1⟩, -, X1, ⟨Lc1, hQ1, l1, y1, z1⟩, st1⟩ := Jvm.LawKit.callS X0 hx (y := (⟨"org/ranktide/graph/RMat", "pair", "(J)I"⟩ : MethodName)) hown (mvT hZ (hw _ (List.mem_of_getElem? (i := 1) rfl))) (mvT hZ (hw _ (List.mem_of_getElem? (i := 2) rfl))) (mvT hZ (hw _ (List.mem_of_getElem? (i := 3) rfl))) (mvT hZ (hw _ (List.mem_of_getElem? (i := 4) rfl))) (by decide) (backOf (W := 0) (rm1 l Z a0 hw [] u (xu) (ku) h0 n0 Z0 P0 P1 (by assumption)) hZ (hw _ (List.mem_of_getElem? (i := 4) rfl)) (hw _ (List.mem_of_getElem? (i := 3) rfl)) (by decide) (by decide)) (g := (mkF m 7 #[.val (.long q1), .second, .val (.long u), .second, .unset] [(.long u)])) rfl (by rw [hml]; rfl) (argsL := [(.long u)]) (rest := []) (lenOf pd_0_0 rfl) rfl (by show 2 * 0 + _ ≤ _; exact Nat.le_of_eq rfl) (hb hby at_7) (fun _ _ => ⟨rfl, e0, (by decide : 0 + 0 ≤ _), (by decide : 0 + 0 ≤ _)⟩)
  dsimp only [Pt.U, Pt.locs, Pt.cells, Pt.slots] at X1 l1 y1 z1 st1 hQ1
  obtain ⟨r1, rfl, hr1, N1q, e1⟩ := hQ1
  have N1 : Fr n0 L1 := by rw [l1]; exact Fr.app N0 N1q
  clear l1
  have y1' : k1 = 0 := y1
  have z1' : n1 = 0 := z1
  clear y1 z1
  subst y1' z1'
  refine own_st st1 ?_
  show own_Go p e below K (T1.setTop (mkF m 10 #[.val (.long q1), .second, .val (.long u), .second, .unset] [(.int r1)]))
  try clear st1 N1q
  refine own_st (fun t k => XS.istore X1.here hx rfl (hb hby at_10) rfl (l' := #[.val (.long q1), .second, .val (.long u), .second, .val (.int r1)]) rfl k) ?_
  show own_Go p e below K (T1.setTop (mkF m 12 #[.val (.long q1), .second, .val (.long u), .second, .val (.int r1)] []))
  refine own_st (fun t k => XS.iload X1.here hx rfl (hb hby at_12) rfl k) ?_
  show own_Go p e below K (T1.setTop (mkF m 14 #[.val (.long q1), .second, .val (.long u), .second, .val (.int r1)] [(.int r1)]))
  refine own_st (fun t k => XS.lloadN X1.here hx rfl (hb hby at_14) rfl k) ?_
  show own_Go p e below K (T1.setTop (mkF m 15 #[.val (.long q1), .second, .val (.long u), .second, .val (.int r1)] [(.long u), (.int r1)]))
  obtain ⟨_, _, ⟨T2, L2, k2, n2⟩, -, X2, ⟨Lc2, hQ2, l2, y2, z2⟩, st2⟩ := Jvm.LawKit.callS X1 hx (y := (⟨"org/ranktide/graph/RMatPairPinLaw", "expected", "(J)I"⟩ : MethodName)) hown (mvT hZ (hw _ (List.mem_of_getElem? (i := 7) rfl))) (mvT hZ (hw _ (List.mem_of_getElem? (i := 8) rfl))) (mvT hZ (hw _ (List.mem_of_getElem? (i := 9) rfl))) (mvT hZ (hw _ (List.mem_of_getElem? (i := 10) rfl))) (by decide) (backOf (W := 1) (rm2 l Z a0 hw [] u h0 n0 Z0 (by assumption)) hZ (hw _ (List.mem_of_getElem? (i := 10) rfl)) (hw _ (List.mem_of_getElem? (i := 9) rfl)) (by decide) (by decide)) (g := (mkF m 15 #[.val (.long q1), .second, .val (.long u), .second, .val (.int r1)] [(.long u), (.int r1)])) rfl (by rw [hml]; rfl) (argsL := [(.long u)]) (rest := [(.int r1)]) (lenOf pd_0_0 rfl) rfl (by show 2 * 0 + _ ≤ _; exact Nat.le_of_eq rfl) (hb hby at_15) (fun _ _ => ⟨rfl, e1, (by decide : 0 + 0 ≤ _), (by decide : 0 + 0 ≤ _)⟩)
  dsimp only [Pt.U, Pt.locs, Pt.cells, Pt.slots] at X2 l2 y2 z2 st2 hQ2
  obtain ⟨r2, rfl, hr2, N2q, e2⟩ := hQ2
  have N2 : Fr n0 L2 := by rw [l2]; exact Fr.app N1 N2q
  clear l2
  have y2' : k2 = 0 := y2
  have z2' : n2 = 0 := z2
  clear y2 z2
  subst y2' z2'
  refine own_st st2 ?_
  show own_Go p e below K (T2.setTop (mkF m 18 #[.val (.long q1), .second, .val (.long u), .second, .val (.int r1)] [(.int r2), (.int r1)]))
  try clear X1 e1 st2 N1 N2q
  refine own_st (fun t k => XS.icmpNo X2.here hx rfl (hb hby at_18) rfl (teq (hr1.trans ((own_same hbd).trans hr2.symm) : r1 = r2)).2 k) ?_
  show own_Go p e below K (T2.setTop (mkF m 21 #[.val (.long q1), .second, .val (.long u), .second, .val (.int r1)] []))
  refine own_st (fun t k => XS.iconst X2.here hx rfl (hb hby at_21) k) ?_
  show own_Go p e below K (T2.setTop (mkF m 22 #[.val (.long q1), .second, .val (.long u), .second, .val (.int r1)] [(.int (1 : Int32))]))
  refine own_st (fun t k => XS.goto X2.here hx rfl (pc0 := 22) (pc' := 26) rfl (hb hby at_22) (by decide) (by decide) k) ?_
  show own_Go p e below K (T2.setTop (mkF m 26 #[.val (.long q1), .second, .val (.long u), .second, .val (.int r1)] [(.int (1 : Int32))]))
  obtain ⟨fs, hr, hrun, hended, hW, hsame⟩ := X2.leave (v := some (.int (nar .boolean (1 : Int32)))) (fun h => by rw [Bd.returns] at h; cases h)
  refine ⟨_, retN X2 hx (t := .boolean) Bd.returns (by simp) (hb hby at_26) hr, fin _ _ _ hrun hended ?_ ⟨⟨_, rfl⟩, hW, hsame.mono (by decide) (by decide)⟩⟩
  show Q0 Z q1 xu ku h0 n0 _ T2.heap _
  rw [e2]
  exact ⟨rfl, N2⟩
set_option maxRecDepth 65536 in
set_option maxHeartbeats 40000000 in
theorem comes_1 {Post : Tables → Env → Array Value → State → Outcome → State → Prop} (hpost : ∀ tb e args s v u, (limb_1_1.after args s (.returned v) u = true ∧ limb_1_2.after args s (.returned v) u = true ∧ True) → FrameEnd s (.returned v) u (Jvm.fieldLocs frame_1_writes args s ++ Jvm.arrayLocs frame_1_arrays args s ++ Jvm.staticLocs frame_1_statics s) 0 0 → Post tb e args s (.returned v) u) :
    ArmFor flags0 classFile x code maxLocals ret World_1 tables_1 room_1 Calls_1 rest_1 Pre_1 Post := by
  intro l hfl _ _ p e ha hc hk s m args below hf hA hF happ hP
  obtain ⟨hcalls, hrest, hpre⟩ := hP
  obtain ⟨-, -, -, hnamed, -, -, -, hat⟩ := (Spec.applies_iff hf).mp happ
  obtain ⟨hg, hn⟩ := and_e (Cond.before_iff.mp (show (Jvm.Cond.and given_1 narrow_1).before args s = true from hpre))
  obtain ⟨g1, g2⟩ := and_e hg
  obtain ⟨w0, rfl⟩ : ∃ w0 : Value, args = #[w0] := by
    have hs : args.size = 1 := by simpa [Cond.value, given_1] using g1
    obtain ⟨L⟩ := args
    match L, hs with
    | [w0], _ => exact ⟨w0, rfl⟩
  have hw := fun d (hd : d ∈ tables_1) => atoms_spec (ws := Jvm.Cond.code x code maxLocals ret :: tables_1) hat d (List.mem_cons_of_mem _ hd)
  have hfit : Fit s := fun {y c} hc i hi => by
    obtain ⟨ha, rfl⟩ := Array.getElem?_eq_some_iff.mp hc
    have q := List.all_eq_true.mp ((Array.all_eq_true_iff_forall_mem.mp hF) _ (Array.getElem_mem ha)) i (List.mem_range.mpr hi)
    simpa [Array.getElem?_eq_getElem hi] using q
  obtain ⟨i0, ei0⟩ := isL_v g2
  obtain rfl : w0 = (.long i0) := Option.some.inj ei0
  obtain ⟨nA, m1⟩ := and_e hn
  obtain ⟨nL, m2⟩ := and_e m1
  obtain ⟨nx0, m3⟩ := and_e m2
  obtain ⟨nx1, nx2⟩ := and_e m3
  obtain ⟨xu, evU⟩ := arr_v nA
  have SU := Sta.start evU (Or.inr ⟨(hw _ (List.mem_of_getElem? (i := 3) rfl)), (hw _ (List.mem_of_getElem? (i := 6) rfl))⟩)
  obtain ⟨clU, ArU⟩ := Arr.start evU nA
  have VU := own_up hfit evU ArU nL nx0 nx1 nx2
  obtain ⟨n, o, h1, h2, h3, _, L, rfl, ⟨rfl, N⟩, hq⟩ := rm0 l s _ hw tables_1 i0 xu clU.cls s.heap s.heap.size (Nat.le_refl _) VU (Old.start s) SU p e ha hc hk s m _ below hf ((Spec.applies_iff_loose hf).mp happ).1 ⟨rfl, State.Warmed39.refl s, rfl⟩ trivial
  refine ⟨n, _, h1, h2, h3, hpost _ _ _ _ _ _ ⟨Cond.after_iff.mpr rfl, Cond.after_iff.mpr (eq_i res_at (Term.int_eval (1)) rfl), trivial⟩ ⟨hq.1, hq.2.1, (hq.2.2.sift fun y hy => Or.inr (N y hy)).mono (by decide) (by decide)⟩⟩
theorem main_1_1 : Claimed_1_1 := comes_1 fun _ _ _ _ _ _ h hF => ⟨h.1, hF⟩
theorem main_1_2 : Claimed_1_2 := comes_1 fun _ _ _ _ _ _ h hF => ⟨h.2.1, hF⟩
end Jvm.Pilot.@@N@@
namespace Jvm.Pilot.@@N@@
open Jvm Jvm.ClassFile Sem Op Lib Jvm.Free Jvm.Stand Jvm.Pilot.@@N@@.Jvm.D
/-! MADE BY PROGRAM (witnessworld.py) out of the Statement's table words and the real class files: 11 classes; the members and pool entries that the words name. The judged class is class 1, her method 2. -/
namespace start1
open Jvm.ClassFile
def u (s : String) : CpInfo := .utf8 (stringToUtf16 s)
/-- a pool by its gaps: so many unusable entries, then the entry; so many at the end -/
def gap : Nat → List CpInfo → List CpInfo
  | 0, r => r
  | n + 1, r => .unusable :: gap n r
def poolList (es : List (Nat × CpInfo)) (last : Nat) : List CpInfo := es.foldr (fun e r => gap e.1 (e.2 :: r)) (gap last [])
def pool (es : List (Nat × CpInfo)) (last : Nat) : Array CpInfo := ⟨poolList es last⟩
def fileOf (pool : Array CpInfo) (this : Nat) (attrs : Array Attribute := #[]) (ms : Array MethodInfo := #[]) (fl : Nat := 33) (sup : Nat := 0) (ifs : Array Nat := #[]) (fds : Array FieldInfo := #[]) : ClassFile where
  minorVersion := 0
  majorVersion := 65
  constantPool := pool
  accessFlags := fl
  thisClass := this
  superClass := sup
  interfaces := ifs
  fields := fds
  methods := ms
  attributes := attrs
def plain (name : String) (sup : Option ClassId) : Class where
  name := name
  kind := .ordinary
  loader := none
  accessFlags := 33
  super := sup
  interfaces := #[]
  cf := none
  fields := #[]
  methods := #[]
  instanceTypes := #[]
  staticTypes := #[]
  resolved := #[]
  callSites := []
  init := .initialized
  statics := none
  mirror := none

def pool0 : Array CpInfo := pool [(5, u "<init>"), (0, u "()V"), (1, .class_ 10), (1, u "java/lang/Object")] 113

def k0m0 : Method := { name := "<init>", desc := "()V", sig := { parameters := [], returnType := none }, accessFlags := 1, code := none }
/-- java/lang/Object -/
def k0 : Class := { plain "java/lang/Object" none with
  accessFlags := 33
  interfaces := #[]
  cf := some (fileOf pool0 8 #[] #[{ accessFlags := 1, nameIndex := 5, descriptorIndex := 6, attributes := #[] }] 33 0 #[] #[])
  fields := #[]
  methods := #[k0m0]
  instanceTypes := #[]
  staticTypes := #[]
  resolved := Array.replicate 124 none
  statics := none }

def pool1 : Array CpInfo := pool [(2, .class_ 4), (1, u "java/lang/Object"), (0, u "<init>"), (0, u "()V"), (0, .double 4368491638549381120), (1, .double 4603309323120478781), (1, .double 4605020690978879570), (1, .double 4606732058837280358), (1, .long 9007199254740991), (1, .methodref 18 19), (0, .class_ 20), (0, .nameAndType 21 22), (0, u "org/ranktide/graph/RMat"), (0, u "pair"), (0, u "(J)I"), (0, .methodref 24 25), (0, .class_ 26), (0, .nameAndType 27 22), (0, u "org/ranktide/graph/RMatPairPinLaw"), (0, u "expected"), (3, u "law"), (0, u "(J)Z")] 2

def k1m0 : Method := { name := "<init>", desc := "()V", sig := { parameters := [], returnType := none }, accessFlags := 2, code := none }
def k1c1 : Code := { maxStack := 4, maxLocals := 4, code := method_2_code, exceptionTable := #[], attributes := #[] }
def k1m1 : Method := { name := "expected", desc := "(J)I", sig := { parameters := [.long], returnType := some .int }, accessFlags := 10, code := some k1c1 }
def k1c2 : Code := { maxStack := 4, maxLocals := 5, code := code, exceptionTable := #[], attributes := #[] }
def k1m2 : Method := { name := "law", desc := "(J)Z", sig := { parameters := [.long], returnType := some .boolean }, accessFlags := 9, code := some k1c2 }
/-- org/ranktide/graph/RMatPairPinLaw -/
def k1 : Class := { plain "org/ranktide/graph/RMatPairPinLaw" (some 0) with
  accessFlags := 49
  interfaces := #[]
  cf := some (fileOf pool1 24 #[] #[{ accessFlags := 2, nameIndex := 5, descriptorIndex := 6, attributes := #[] }, { accessFlags := 10, nameIndex := 27, descriptorIndex := 22, attributes := #[] }, { accessFlags := 9, nameIndex := 31, descriptorIndex := 32, attributes := #[] }] 49 2 #[] #[])
  fields := #[]
  methods := #[k1m0, k1m1, k1m2]
  instanceTypes := #[]
  staticTypes := #[]
  resolved := Array.replicate 35 none
  statics := none }

def pool2 : Array CpInfo := pool [(1, .class_ 2), (0, u "org/ranktide/graph/RMat"), (4, u "PARTS"), (0, u "I"), (5, .class_ 16), (1, u "java/lang/Object"), (24, u "nodes"), (2, u "links"), (8, u "levels"), (2, u "highest"), (0, u "[I"), (2, u "round"), (2, u "stretch"), (2, u "parts"), (0, .class_ 68), (0, u "org/ranktide/graph/RMat$Links"), (7, .class_ 77), (0, u "org/ranktide/graph/RMat$DrawnGraph"), (102, u "pair"), (0, u "(J)I"), (19, .fieldref 1 202), (0, .nameAndType 203 204), (0, u "UP_TO"), (0, u "[J"), (8, u "CHANCES"), (0, u "[D"), (48, u "MAX_DIGITS"), (2, u "ROUND"), (0, u "STRETCH"), (0, u "NONE"), (0, u "J")] 66

def k2c0 : Code := { maxStack := 6, maxLocals := 2, code := prog_47_method_14_code, exceptionTable := #[], attributes := #[] }
def k2m0 : Method := { name := "pair", desc := "(J)I", sig := { parameters := [.long], returnType := some .int }, accessFlags := 8, code := some k2c0 }
/-- org/ranktide/graph/RMat -/
def k2 : Class := { plain "org/ranktide/graph/RMat" (some 0) with
  accessFlags := 49
  interfaces := #[]
  cf := some (fileOf pool2 1 #[.nestMembers #[76, 67]] #[{ accessFlags := 8, nameIndex := 180, descriptorIndex := 181, attributes := #[] }] 49 14 #[] #[{ accessFlags := 26, nameIndex := 213, descriptorIndex := 214, attributes := #[] }, { accessFlags := 26, nameIndex := 203, descriptorIndex := 204, attributes := #[] }, { accessFlags := 26, nameIndex := 263, descriptorIndex := 8, attributes := #[] }, { accessFlags := 26, nameIndex := 266, descriptorIndex := 8, attributes := #[] }, { accessFlags := 26, nameIndex := 267, descriptorIndex := 8, attributes := #[] }, { accessFlags := 26, nameIndex := 7, descriptorIndex := 8, attributes := #[] }, { accessFlags := 26, nameIndex := 268, descriptorIndex := 269, attributes := #[] }, { accessFlags := 18, nameIndex := 41, descriptorIndex := 8, attributes := #[] }, { accessFlags := 18, nameIndex := 44, descriptorIndex := 8, attributes := #[] }, { accessFlags := 18, nameIndex := 53, descriptorIndex := 8, attributes := #[] }, { accessFlags := 18, nameIndex := 56, descriptorIndex := 57, attributes := #[] }, { accessFlags := 18, nameIndex := 60, descriptorIndex := 8, attributes := #[] }, { accessFlags := 18, nameIndex := 63, descriptorIndex := 8, attributes := #[] }, { accessFlags := 18, nameIndex := 66, descriptorIndex := 8, attributes := #[] }])
  fields := #[{ name := "CHANCES", type := (.array .double), accessFlags := 26, slot := 0, constantValue := 0 }, { name := "UP_TO", type := (.array .long), accessFlags := 26, slot := 1, constantValue := 0 }, { name := "MAX_DIGITS", type := .int, accessFlags := 26, slot := 2, constantValue := 0 }, { name := "ROUND", type := .int, accessFlags := 26, slot := 3, constantValue := 0 }, { name := "STRETCH", type := .int, accessFlags := 26, slot := 4, constantValue := 0 }, { name := "PARTS", type := .int, accessFlags := 26, slot := 5, constantValue := 0 }, { name := "NONE", type := .long, accessFlags := 26, slot := 6, constantValue := 0 }, { name := "nodes", type := .int, accessFlags := 18, slot := 0, constantValue := 0 }, { name := "links", type := .int, accessFlags := 18, slot := 1, constantValue := 0 }, { name := "levels", type := .int, accessFlags := 18, slot := 2, constantValue := 0 }, { name := "highest", type := (.array .int), accessFlags := 18, slot := 3, constantValue := 0 }, { name := "round", type := .int, accessFlags := 18, slot := 4, constantValue := 0 }, { name := "stretch", type := .int, accessFlags := 18, slot := 5, constantValue := 0 }, { name := "parts", type := .int, accessFlags := 18, slot := 6, constantValue := 0 }]
  methods := #[k2m0]
  instanceTypes := #[.int, .int, .int, (.array .int), .int, .int, .int]
  staticTypes := #[(.array .double), (.array .long), .int, .int, .int, .int, .long]
  resolved := Array.replicate 336 none
  statics := some 0 }

def pool3 : Array CpInfo := pool [(1, u "java/lang/Cloneable"), (0, .class_ 1), (0, u "java/lang/Object"), (0, .class_ 3)] 3

/-- java/lang/Cloneable -/
def k3 : Class := { plain "java/lang/Cloneable" (some 0) with
  accessFlags := 1537
  interfaces := #[]
  cf := some (fileOf pool3 2 #[] #[] 1537 4 #[] #[])
  fields := #[]
  methods := #[]
  instanceTypes := #[]
  staticTypes := #[]
  resolved := Array.replicate 8 none
  statics := none }

def pool4 : Array CpInfo := pool [(1, u "java/io/Serializable"), (0, .class_ 1), (0, u "java/lang/Object"), (0, .class_ 3)] 3

/-- java/io/Serializable -/
def k4 : Class := { plain "java/io/Serializable" (some 0) with
  accessFlags := 1537
  interfaces := #[]
  cf := some (fileOf pool4 2 #[] #[] 1537 4 #[] #[])
  fields := #[]
  methods := #[]
  instanceTypes := #[]
  staticTypes := #[]
  resolved := Array.replicate 8 none
  statics := none }

/-- the primitive byte -/
def k5 : Class := { plain "byte" none with kind := .primitive 'B', accessFlags := 0x411 }
/-- [B -/
def k6 : Class := { plain "[B" (some 0) with kind := .array 5 .byte, interfaces := #[3, 4], accessFlags := 1041 }

/-- the primitive int -/
def k7 : Class := { plain "int" none with kind := .primitive 'I', accessFlags := 0x411 }
/-- [I -/
def k8 : Class := { plain "[I" (some 0) with kind := .array 7 .int, interfaces := #[3, 4], accessFlags := 1041 }

/-- the primitive long -/
def k9 : Class := { plain "long" none with kind := .primitive 'J', accessFlags := 0x411 }
/-- [J -/
def k10 : Class := { plain "[J" (some 0) with kind := .array 9 .long, interfaces := #[3, 4], accessFlags := 1041 }

def heap : Heap := #[{ cls := 2, slots := #[.null, .ref 1, .int 0, .int 0, .int 0, .int 0, .long 0], vm := .statics 2 },
  { cls := 10, slots := #[.long 5134103575202364, .long 6845471433603153, .long 8556839292003941], vm := .none }]
def classes : Array Class := #[k0, k1, k2, k3, k4, k5, k6, k7, k8, k9, k10]
def interned : List (Array UInt16 × Addr) := []
def slotsUsed : Nat := 10
def theMethod : MethodId := ⟨1, 2⟩
def args0 : Array Value := #[.long 5]
def aboutOver (below : List Frame) : State where
  vm := { classes := classes, interned := interned.toArray }
  heap := heap
  slotsUsed := slotsUsed
  threads := #[{ frames := .invoking theMethod args0 :: below }]
def below0 : List Frame := [.native { method := ⟨0, 0⟩, args := #[] }]
def about1 : State := aboutOver below0
def p0 : Program := .bare "" "" ""
def e0 : Env := launch0.env 0 0 0
theorem w_frames : about1.frames = Frame.invoking theMethod args0 :: below0 := rfl
set_option maxRecDepth 65536 in
theorem w_args : argsFit about1.vm theMethod args0 = true := by decide +kernel
set_option maxRecDepth 65536 in
theorem w_heap : heapFits about1 = true := by decide +kernel
set_option maxRecDepth 65536 in
theorem w_runnable : about1.curStatus? = some .runnable := by decide +kernel
set_option maxRecDepth 65536 in
theorem w_alone : about1.alone = true := by decide +kernel
set_option maxRecDepth 65536 in
theorem w_named : about1.methodNamed? x = some theMethod := by decide +kernel
set_option maxRecDepth 65536 in
theorem w_hears : about1.hears theMethod below0 = true := by decide +kernel
set_option maxRecDepth 65536 in
theorem w_ripe : about1.ripe theMethod args0 below0 = true := by decide +kernel
theorem w_running : about1.status = .running := rfl
set_option maxRecDepth 65536 in
theorem w_room : about1.hasRoom e0.platform room_1 = true :=
  launch0.hasRoom_least _ room_1 (by decide +kernel) (by decide +kernel) (by decide +kernel) (by decide +kernel) (by decide +kernel) (by decide +kernel)
theorem allAtoms_all (ts : List Jvm.Cond) (a : Array Jvm.Value) (st : Jvm.State) : (allAtoms ts).before a st = ts.all (fun c => c.before a st) := by
  induction ts with
  | nil => rfl
  | cons c t ih =>
    show (Jvm.Cond.and c (allAtoms t)).before a st = _
    rw [Jvm.Cond.before_and, ih, List.all_cons]
def words1 : List Jvm.Cond := Jvm.Cond.code x code maxLocals ret :: tables_1
/-- a 'code' word, met by the world's own term for the bytes: nothing is compared byte by byte -/
theorem code_word {y : MethodName} {bytes : ByteArray} {mx : Nat} {rt : Option FieldType} {a : Array Value} {s : State} {m : MethodId} {meth : Method} {c : Code} (h1 : s.methodNamed? y = some m) (h2 : s.vm.method? m = some meth) (h3 : meth.code = some c) (h4 : c.code = bytes)
    (h5 : (c.maxLocals == mx && c.exceptionTable.isEmpty && decide (c.maxStack ≤ mostOperands) && decide (meth.sig.returnType = rt) && !meth.locks && decide (parseMethodDescriptor y.desc = some meth.sig)) = true) : (Jvm.Cond.code y bytes mx rt).before a s = true := by
  simp only [Bool.and_eq_true, beq_iff_eq, Bool.not_eq_true', decide_eq_true_eq] at h5
  obtain ⟨⟨⟨⟨⟨g1, g2⟩, g3⟩, g4⟩, g5⟩, g6⟩ := h5
  simp [Cond.before, Cond.holds, Cond.value, h1, h2, h3, h4, g1, g2, g3, g4, g5, g6]
def isCode : Jvm.Cond → Bool
  | .code _ _ _ _ => true
  | _ => false
theorem all_split {L : List Jvm.Cond} {P : Jvm.Cond → Bool} (h1 : L.all (fun c => isCode c || P c) = true) (h2 : ∀ c ∈ L.filter isCode, P c = true) : L.all P = true := by
  refine List.all_eq_true.mpr fun c hc => ?_
  have h := List.all_eq_true.mp h1 c hc
  rcases Bool.eq_false_or_eq_true (isCode c) with hi | hi
  · exact h2 c (List.mem_filter.mpr ⟨hc, hi⟩)
  · simpa [hi] using h
set_option maxRecDepth 65536 in
theorem w_c0 : (Jvm.Cond.code x code maxLocals ret).before args0 about1 = true := code_word (m := ⟨1, 2⟩) (meth := k1m2) (c := k1c2) (by decide +kernel) rfl rfl rfl (by decide +kernel)
set_option maxRecDepth 65536 in
theorem w_c1 : (Jvm.Cond.code ({ cls := "org/ranktide/graph/RMat", name := "pair", desc := "(J)I" } : Jvm.MethodName) prog_47_method_14_code (2 : Nat) (Option.some Jvm.ClassFile.FieldType.int)).before args0 about1 = true := code_word (m := ⟨2, 0⟩) (meth := k2m0) (c := k2c0) (by decide +kernel) rfl rfl rfl (by decide +kernel)
set_option maxRecDepth 65536 in
theorem w_c2 : (Jvm.Cond.code ({ cls := "org/ranktide/graph/RMatPairPinLaw", name := "expected", desc := "(J)I" } : Jvm.MethodName) method_2_code (4 : Nat) (Option.some Jvm.ClassFile.FieldType.int)).before args0 about1 = true := code_word (m := ⟨1, 1⟩) (meth := k1m1) (c := k1c1) (by decide +kernel) rfl rfl rfl (by decide +kernel)
def codes1 : List Jvm.Cond := [Jvm.Cond.code x code maxLocals ret, Jvm.Cond.code ({ cls := "org/ranktide/graph/RMat", name := "pair", desc := "(J)I" } : Jvm.MethodName) prog_47_method_14_code (2 : Nat) (Option.some Jvm.ClassFile.FieldType.int), Jvm.Cond.code ({ cls := "org/ranktide/graph/RMatPairPinLaw", name := "expected", desc := "(J)I" } : Jvm.MethodName) method_2_code (4 : Nat) (Option.some Jvm.ClassFile.FieldType.int)]
set_option maxRecDepth 65536 in
theorem codes_eq : words1.filter isCode = codes1 := rfl
theorem w_codes : ∀ c ∈ words1.filter isCode, c.before args0 about1 = true := by
  rw [codes_eq]
  intro c hc
  simp only [codes1, List.mem_cons, List.not_mem_nil, or_false] at hc
  rcases hc with rfl | rfl | rfl
  · exact w_c0
  · exact w_c1
  · exact w_c2
set_option maxRecDepth 65536 in
theorem w_t1 : words1.all (fun c => isCode c || c.before args0 about1) = true := by decide +kernel
theorem w_tables : (allAtoms (Jvm.Cond.code x code maxLocals ret :: tables_1)).before args0 about1 = true := by
  rw [allAtoms_all]
  show words1.all (fun c => c.before args0 about1) = true
  refine all_split ?_ w_codes
  rw [w_t1]
set_option maxRecDepth 65536 in
theorem w_case : (Jvm.Cond.and given_1 narrow_1).before args0 about1 = true := by decide +kernel
theorem w_applies : (headSpec (Jvm.Cond.code x code maxLocals ret :: tables_1) room_1).applies x e0.platform about1 = true :=
  (Spec.applies_iff w_frames).mpr ⟨w_running, w_runnable, w_alone, w_named, w_hears, w_ripe, w_room, w_tables⟩
theorem atStart : AtStart classFile x code maxLocals ret World_1 tables_1 room_1 Calls_1 rest_1 Pre_1 launch0 p0 e0 about1 theMethod args0 below0 :=
  ⟨lists_1, trivial, launch0.admits_env _ _ _, launch0.least_env, fairChoices_fair.cas, fairChoices_fair.clock, w_frames, w_args, w_heap, w_applies, trivial, trivial, w_case⟩
end start1
theorem witness_1 : WitnessClaimed_1 := ⟨start1.p0, start1.e0, start1.about1, start1.theMethod, start1.args0, start1.below0, start1.atStart⟩
end Jvm.Pilot.@@N@@
