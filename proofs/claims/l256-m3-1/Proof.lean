import JvmDerived
import JvmDerived.Pilot.@@N@@Statement
import JvmDerived.Pilot.@@N@@Code
set_option linter.unusedVariables false
set_option linter.unusedSimpArgs false
namespace Jvm.RoadKit
open Sem ClassFile Op Lib Jvm.Stand Jvm.Free Jvm.LawKit
section New
variable {p : Program} {l : Launch} {e : Env} {R : Room} {s : State} {m : MethodId} {args : Array Value} {below : List Frame} {meth : Method} {c : Code} {T : State} {locs : List Loc} {cells slots : Nat}
theorem retI (X : Stand p l e R s m args below meth c T locs cells slots) (hx : p.tables.exec = Jvm.exec) {pc : Nat} {Ls : Array Slot} {z : Int32} {rest : List Value} (hret : meth.sig.returnType = some .int) (hd : decode c.code pc = .ok (.ireturn, 1)) {fs : List Frame}
    (hl : ∀ (f : JFrame) (acts : List Action), f.method = m → f.locked = none → f.entered = [] → (doReturn e (T.setTop f) acts (some (.int z))).1 = T.setFrames fs) : Steps p.tables e below (T.setTop (mkF m pc Ls (.int z :: rest))) (T.setFrames fs) := by
  have hm' : T.vm.method? m = some meth := X.method'
  have hn : narrow .int (.int z) = .int z := rfl
  show Steps p.tables e below (T.setTop { method := m, pc := pc, locals := Ls, stack := _ :: rest, locked := none }) _
  jvm_step X.here [X.here.top, hx, hd, hm', hret, hn]
  first | (intro acts; rw [hl _ acts rfl rfl rfl]) | rw [hl _ _ rfl rfl rfl]
  exact Steps.refl _
end New
end Jvm.RoadKit
namespace Jvm.Pilot.@@N@@
open Jvm Jvm.ClassFile Sem Op Lib Jvm.Free Jvm.Stand Jvm.LawKit Jvm.RoadKit Bundle Jvm.Pilot.@@N@@.Jvm.D
/-- from the state T the run comes to a state of which K holds -/
def own_Go (p : Program) (e : Env) (below : List Frame) (K : State → Prop) (T : State) : Prop := ∃ t, Steps p.tables e below T t ∧ K t
theorem own_st {p : Program} {e : Env} {below : List Frame} {K : State → Prop} {T T' : State} (h : ∀ t, Steps p.tables e below T' t → Steps p.tables e below T t) (g : own_Go p e below K T') : own_Go p e below K T := by
  obtain ⟨t, a, b⟩ := g; exact ⟨t, h t a, b⟩
theorem own_tr {p : Program} {e : Env} {below : List Frame} {K : State → Prop} {T T' : State} (h : Steps p.tables e below T T') (g : own_Go p e below K T') : own_Go p e below K T := by
  obtain ⟨t, a, b⟩ := g; exact ⟨t, h.trans a, b⟩
theorem own_lrem {tb : Tables} [Ours tb] {e : Env} {below : List Frame} {T target : State} {m : MethodId} {c : Code} {g : JFrame} (h : At T m c below) (hx : tb.exec = Jvm.exec) (hg : g.method = m) {x y : Int64} {rest : List Value} (hd : decode c.code g.pc = .ok (.lrem, 1)) (hs : g.stack = .long y :: .long x :: rest) (hy : y ≠ 0)
    (hr : Steps tb e below (T.setTop { g with pc := g.pc + 1, stack := .long (x % y) :: rest }) target) : Steps tb e below (T.setTop g) target := by
  have q : x - x / y * y = x % y := lrem_mod x y
  exact XS.lrem h hx hg hd hs hy (by rw [q]; exact hr)
/-- a boolean's worth: 1 where P holds, 0 where it doesn't -/
def own_B (P : Prop) (r : Int32) : Prop := (r = 1 ∧ P) ∨ (r = 0 ∧ ¬ P)
theorem own_B.yes {P : Prop} {r : Int32} (e : r = 1) (h : P) : own_B P r := Or.inl ⟨e, h⟩
theorem own_B.no {P : Prop} {r : Int32} (e : r = 0) (h : ¬ P) : own_B P r := Or.inr ⟨e, h⟩
theorem own_B.same {P Q : Prop} {r v : Int32} (a : own_B P r) (b : own_B Q v) (h : P ↔ Q) : r = v := by
  rcases a with ⟨rfl, p⟩ | ⟨rfl, p⟩ <;> rcases b with ⟨rfl, q⟩ | ⟨rfl, q⟩
  · rfl
  · exact absurd (h.mp p) q
  · exact absurd (h.mpr q) p
  · rfl
theorem own_B.one {P : Prop} {r : Int32} (a : own_B P r) (h : P) : r = 1 := by
  rcases a with ⟨rfl, p⟩ | ⟨rfl, p⟩
  · rfl
  · exact absurd h p
theorem own_B.zero {P : Prop} {r : Int32} (a : own_B P r) (h : ¬ P) : r = 0 := by
  rcases a with ⟨rfl, p⟩ | ⟨rfl, p⟩
  · exact absurd p h
  · rfl
theorem own_B.ne0 {P : Prop} {r : Int32} (a : own_B P r) (h : P) : ¬ r = 0 := by rw [a.one h]; decide
theorem own_B.holds {P : Prop} {r : Int32} (a : own_B P r) (h : ¬ r = 0) : P := by
  rcases a with ⟨rfl, p⟩ | ⟨rfl, p⟩
  · exact p
  · exact absurd rfl h
theorem own_B.fails {P : Prop} {r : Int32} (a : own_B P r) (h : r = 0) : ¬ P := by
  rcases a with ⟨rfl, p⟩ | ⟨rfl, p⟩
  · exact absurd h (by decide)
  · exact p
theorem own_atJ (ws : List Int64) (i : Nat) : (ws.map Value.long).getD i (.long (0 : Int64)) = .long (ws.getD i 0) := by
  simp only [List.getD, List.getElem?_map]; cases ws[i]? <;> rfl
theorem own_atI (ws : List Int32) (i : Nat) : (ws.map Value.int).getD i (.int (0 : Int32)) = .int (ws.getD i 0) := by
  simp only [List.getD, List.getElem?_map]; cases ws[i]? <;> rfl
theorem own_selp {Z s : State} {a0 args : Array Value} {y : MethodName} {n : Nat} (hZ : Z.Warmed39 s.vm) (wi : (Jvm.Cond.instantiable y.cls n).before a0 Z = true) (wm : (Jvm.Cond.instanceMethod y).before a0 Z = true) (wp : (Jvm.Cond.privateMethod y).before a0 Z = true) (hy : y.cls ≠ "java/lang/invoke/MethodHandle" ∧ y.cls ≠ "java/lang/invoke/VarHandle") : (Jvm.Cond.selects y.cls y y).before args s = true := by
  have w1 : (Jvm.Cond.instantiable y.cls n).before args s = true := mvT hZ wi
  obtain ⟨c, k, h1, h2, h3, h4, -⟩ := Cond.instantiable_spec w1
  have h5 : k.isInterface = false := by cases hq : k.isInterface <;> simp [hq] at h4 ⊢
  exact selects_self_of_private h1 h2 h5 (Cond.privateMethod_at (mvP hZ wp (args := args))) (mvT hZ wm) hy
theorem own_hat {T : State} {h : Heap} {a : Addr} {c : Cell} (e : T.heap = h) (q : h[a]? = some c) : T.heap[a]? = some c := by rw [e]; exact q
theorem own_nn (x : Int32) : nar .byte (nar .byte x) = nar .byte x := by
  refine Int32.toInt_inj.mp ?_
  have a := c_i2b x
  have b := c_i2b x.toInt8.toInt32
  show x.toInt8.toInt32.toInt8.toInt32.toInt = x.toInt8.toInt32.toInt
  omega
theorem own_nb (x : Int32) : nar .byte x.toInt8.toInt32 = x.toInt8.toInt32 := own_nn x
theorem own_fit {x : Int32} (h : nar .byte x = x) : fits .byte (.int x) = true := by rw [← h]; exact fits_nar_byte x
theorem own_cl {j : Int32} {i : Nat} (h : j.toInt = (i : Int)) : j.toNatClampNeg = i := by rw [Int32.toNatClampNeg, h]; rfl
theorem own_lt {a b : Int32} (h : a.toInt < b.toInt) : a < b := Int32.lt_iff_toInt_lt.mpr h
theorem own_nlt {a b : Int32} (h : b.toInt ≤ a.toInt) : ¬ a < b := fun q => absurd (Int32.lt_iff_toInt_lt.mp q) (by omega)
theorem own_ltI {a b : Int32} (h : a < b) : a.toInt < b.toInt := Int32.lt_iff_toInt_lt.mp h
theorem own_nltI {a b : Int32} (h : ¬ a < b) : b.toInt ≤ a.toInt := by have := mt Int32.lt_iff_toInt_lt.mpr h; omega
theorem own_neI {a b : Int32} (h : ¬ a = b) : ¬ a.toInt = b.toInt := fun q => h (Int32.toInt_inj.mp q)
theorem own_ltL {a b : Int64} (h : a < b) : a.toInt < b.toInt := Int64.lt_iff_toInt_lt.mp h
theorem own_nltL {a b : Int64} (h : ¬ a < b) : b.toInt ≤ a.toInt := by have := mt Int64.lt_iff_toInt_lt.mpr h; omega
theorem own_neL {a b : Int64} (h : ¬ a = b) : ¬ a.toInt = b.toInt := fun q => h (Int64.toInt_inj.mp q)
theorem own_s1 : FP.Core.val64 4607182418800017408 = .fin false (2 ^ 52) (-52) := by decide +kernel
theorem own_s2 : FP.Core.val64 4611686018427387904 = .fin false (2 ^ 52) (-51) := by decide +kernel
theorem own_s4 : FP.Core.val64 4616189618054758400 = .fin false (2 ^ 52) (-50) := by decide +kernel
theorem own_s8 : FP.Core.val64 4620693217682128896 = .fin false (2 ^ 52) (-49) := by decide +kernel
theorem own_h1 : FP.Core.val64 4602678819172646912 = .fin false (2 ^ 52) (-53) := by decide +kernel
theorem own_h2 : FP.Core.val64 4598175219545276416 = .fin false (2 ^ 52) (-54) := by decide +kernel
theorem own_h3 : FP.Core.val64 4593671619917905920 = .fin false (2 ^ 52) (-55) := by decide +kernel
-- 1 + ppm * 1e-6 for the four ppm
theorem own_d0 : FP.dadd 4607182418800017408 (FP.dmul 0 4517329193108106637) = 4607182418800017408 := by decide +kernel
theorem own_d1 : FP.dadd 4607182418800017408 (FP.dmul (FP.l2d 1000000) 4517329193108106637) = 4611686018427387904 := by decide +kernel
theorem own_d2 : FP.dadd 4607182418800017408 (FP.dmul (FP.l2d 3000000) 4517329193108106637) = 4616189618054758400 := by decide +kernel
theorem own_d3 : FP.dadd 4607182418800017408 (FP.dmul (FP.l2d 7000000) 4517329193108106637) = 4620693217682128896 := by decide +kernel
open FP.Core in
theorem own_div {x : Int64} {S T : UInt64} {j k : Int} (hS : val64 S = .fin false (2 ^ 52) j) (hT : val64 T = .fin false (2 ^ 52) k) (h : j + k = -104) : ddiv (l2d x) S = dmul (l2d x) T := by
  obtain ⟨c, q, ea⟩ := l2d_shape x
  show of64 (quotient b64 (val64 (l2d x)) (val64 S)) = of64 (round b64 (exactProduct (val64 (l2d x)) (val64 T)))
  rw [ea, hS, hT]
  refine congrArg of64 ?_
  have e : quotient b64 (.fin (decide (x.toInt < 0)) c q) (.fin false (2 ^ 52) j) = roundRatio b64 (decide (x.toInt < 0) != false) c (2 ^ 52) (q - j) := by
    show (if (2 : Nat) ^ 52 = 0 then (if c = 0 then Datum.nan else .inf (decide (x.toInt < 0) != false)) else roundRatio b64 (decide (x.toInt < 0) != false) c (2 ^ 52) (q - j)) = _
    rw [if_neg (by decide)]
  rw [e]
  show _ = roundRatio b64 (decide (x.toInt < 0) != false) (c * 2 ^ 52) 1 (q + k)
  refine roundRatio_congr (by decide) (by decide) ?_
  have a1 : (q - j - (q + k)).toNat = 104 := by omega
  have a2 : (q + k - (q - j)).toNat = 0 := by omega
  rw [a1, a2, Nat.pow_zero, Nat.mul_one, Nat.mul_one, Nat.mul_assoc, ← Nat.pow_add]
/-- a divisor that is at least 1 -/
def own_ge (D : UInt64) : Prop := FP.Core.val64 D ≠ .nan ∧ FP.Core.sgn (FP.Core.val64 D) = false ∧ 2 ^ 1074 ≤ FP.Core.zmag FP.Core.b64 (FP.Core.val64 D)
open FP.Core in
theorem own_quo {x : Int64} {D : UInt64} (h : own_ge D) : val64 (ddiv (l2d x) D) ≠ .nan ∧ (sgn (val64 (ddiv (l2d x) D)) = decide (x.toInt < 0)) ∧ zmag b64 (val64 (ddiv (l2d x) D)) ≤ zmag b64 (val64 (l2d x)) := by
  obtain ⟨h1, h2, h3⟩ := h
  obtain ⟨c, q, ea⟩ := l2d_shape x
  have hf := val64_fits (l2d x)
  have hfD := val64_fits D
  rw [val64_ddiv]
  rw [ea] at hf ⊢
  cases hD : val64 D with
  | nan => exact absurd hD h1
  | inf t =>
    rw [hD] at h2
    have ht : t = false := h2
    subst ht
    refine ⟨Datum.noConfusion, ?_, ?_⟩
    · show (decide (x.toInt < 0) != false) = _
      simp
    · show inUnits 0 b64.qmin b64.qmin ≤ _
      unfold inUnits
      rw [Nat.zero_mul]; exact Nat.zero_le _
  | fin t d r =>
    rw [hD] at h2 h3 hfD
    have ht : t = false := h2
    subst ht
    have qm : b64.qmin = -1074 := by decide
    have h3' : 2 ^ 1074 ≤ d * 2 ^ (r - b64.qmin).toNat := h3
    have d0 : d ≠ 0 := fun z => by rw [z, Nat.zero_mul] at h3'; exact absurd h3' (Nat.not_le.mpr (Nat.two_pow_pos _))
    have e : quotient b64 (.fin (decide (x.toInt < 0)) c q) (.fin false d r) = roundRatio b64 (decide (x.toInt < 0)) c d (q - r) := by
      show (if d = 0 then _ else roundRatio b64 (decide (x.toInt < 0) != false) c d (q - r)) = _
      rw [if_neg d0]; simp
    rw [e]
    refine ⟨roundRatio_ne_nan _ _ _ _ _, sgn_roundRatio _ _ _ _ _, ?_⟩
    have hr := hfD.2.1
    have hq := hf.2.1
    refine zmag_roundRatio_le good_b64 (e0 := min b64.qmin (q - r)) (Nat.pos_of_ne_zero d0) hf Datum.noConfusion (Int.min_le_left _ _) (Int.min_le_right _ _) ?_
    show c * 2 ^ (q - r - min b64.qmin (q - r)).toNat ≤ c * 2 ^ (q - b64.qmin).toNat * 2 ^ (b64.qmin - min b64.qmin (q - r)).toNat * d
    rw [Nat.mul_assoc, Nat.mul_assoc]
    refine Nat.mul_le_mul_left c ?_
    rw [qm] at h3' hr hq ⊢
    -- 2^(q-r-e0) ≤ 2^(q+1074) * 2^(-1074-e0) * d
    generalize he : min (-1074 : Int) (q - r) = e0 at *
    have b1 : e0 ≤ -1074 := by omega
    have b2 : e0 ≤ q - r := by omega
    rw [← Nat.mul_assoc, ← Nat.pow_add]
    have e1 : (q - -1074).toNat + (-1074 - e0).toNat = (q - e0).toNat := by omega
    rw [e1]
    -- both sides times 2^(r+1074)
    refine Nat.le_of_mul_le_mul_right (c := 2 ^ (r - -1074).toNat) ?_ (Nat.two_pow_pos _)
    rw [← Nat.pow_add, Nat.mul_assoc]
    have e2 : (q - r - e0).toNat + (r - -1074).toNat = (q - e0).toNat + 1074 := by omega
    rw [e2, Nat.pow_add]
    exact Nat.mul_le_mul_left _ h3'
open FP.Core in
theorem own_one : zval b64 (val64 4607182418800017408) = ((2 ^ 1074 : Nat) : Int) := by decide +kernel
theorem own_e6 : FP.Core.val64 4517329193108106637 = .fin false 4722366482869645 (-72) := by decide +kernel
open FP.Core in
theorem own_mul {p : Int64} (hp : 0 ≤ p.toInt) : (∃ c q, val64 (dmul (l2d p) 4517329193108106637) = .fin false c q) ∨ val64 (dmul (l2d p) 4517329193108106637) = .inf false := by
  obtain ⟨c, q, ea⟩ := l2d_shape p
  have hs : decide (p.toInt < 0) = false := decide_eq_false (by omega)
  rw [hs] at ea
  rw [val64_dmul, ea, own_e6]
  exact roundRatio_cases b64 false (c * 4722366482869645) 1 (q + -72)
open FP.Core in
theorem own_den {p : Int64} (hp : 0 ≤ p.toInt) : own_ge (dadd 4607182418800017408 (dmul (l2d p) 4517329193108106637)) := by
  unfold own_ge
  rw [val64_dadd]
  rcases own_mul hp with ⟨c, q, e⟩ | e
  · have fM := val64_fits (dmul (l2d p) 4517329193108106637)
    rw [e] at fM ⊢
    have f1 := val64_fits 4607182418800017408
    have n1 : val64 4607182418800017408 ≠ .nan := by decide +kernel
    have zM : 0 ≤ zval b64 (.fin false c q) := Int.natCast_nonneg _
    have g := sum_ge good_b64 ⟨_, _, _, own_s1⟩ ⟨_, _, _, rfl⟩ f1 fM f1 n1 (by omega)
    rw [own_one] at g
    have hnn : round b64 (exactSum (val64 4607182418800017408) (.fin false c q)) ≠ .nan := by
      rw [own_s1]
      exact roundRatio_ne_nan _ _ _ _ _
    generalize round b64 (exactSum (val64 4607182418800017408) (.fin false c q)) = d at *
    have pz : (0 : Int) < ((2 ^ 1074 : Nat) : Int) := Int.ofNat_lt.mpr (Nat.two_pow_pos _)
    unfold zval at g
    cases hsg : sgn d with
    | true =>
      rw [hsg] at g
      have g' : ((2 ^ 1074 : Nat) : Int) ≤ -(zmag b64 d : Int) := g
      omega
    | false =>
      rw [hsg] at g
      have g' : ((2 ^ 1074 : Nat) : Int) ≤ (zmag b64 d : Int) := g
      exact ⟨hnn, rfl, Int.ofNat_le.mp g'⟩
  · rw [e, own_s1]
    exact ⟨Datum.noConfusion, rfl, by decide +kernel⟩
def own_le (o : Option Ordering) : Prop := o = some .lt ∨ o = some .eq
open FP.Core in
/-- what the law asks of the quotient -/
theorem own_bnd {x : Int64} {D : UInt64} (h : own_ge D) : (0 ≤ x.toInt → own_le (dcmp 0 (ddiv (l2d x) D)) ∧ own_le (dcmp (ddiv (l2d x) D) (l2d x))) ∧ (x.toInt < 0 → own_le (dcmp (l2d x) (ddiv (l2d x) D)) ∧ own_le (dcmp (ddiv (l2d x) D) 0)) := by
  obtain ⟨h1, h2, h3⟩ := own_quo (x := x) h
  obtain ⟨c, q, ea⟩ := l2d_shape x
  have nx : val64 (l2d x) ≠ .nan := by rw [ea]; exact Datum.noConfusion
  have n0 : val64 0 ≠ .nan := by decide +kernel
  have z0 : zval b64 (val64 0) = 0 := by decide +kernel
  have ng : ∀ a b : Int, a ≤ b → own_le (some (compare a b)) := fun a b hab => by
    rw [compare_ite]
    by_cases l : a < b
    · rw [if_pos l]; exact Or.inl rfl
    · rw [if_neg l, if_pos (by omega)]; exact Or.inr rfl
  have zx : zval b64 (val64 (l2d x)) = signed (decide (x.toInt < 0)) (zmag b64 (val64 (l2d x))) := by
    unfold zval
    rw [show sgn (val64 (l2d x)) = decide (x.toInt < 0) by rw [ea]; rfl]
  have zr : zval b64 (val64 (ddiv (l2d x) D)) = signed (decide (x.toInt < 0)) (zmag b64 (val64 (ddiv (l2d x) D))) := by
    unfold zval
    rw [h2]
  generalize zmag b64 (val64 (l2d x)) = mx at *
  generalize zmag b64 (val64 (ddiv (l2d x) D)) = mr at *
  refine ⟨fun hx => ?_, fun hx => ?_⟩
  · rw [decide_eq_false (by omega)] at zx zr
    have zx' : zval b64 (val64 (l2d x)) = (mx : Int) := zx
    have zr' : zval b64 (val64 (ddiv (l2d x) D)) = (mr : Int) := zr
    rw [dcmp_zval n0 h1, dcmp_zval h1 nx, z0, zr', zx']
    exact ⟨ng _ _ (by omega), ng _ _ (by omega)⟩
  · rw [decide_eq_true hx] at zx zr
    have zx' : zval b64 (val64 (l2d x)) = -(mx : Int) := zx
    have zr' : zval b64 (val64 (ddiv (l2d x) D)) = -(mr : Int) := zr
    rw [dcmp_zval nx h1, dcmp_zval h1 n0, z0, zr', zx']
    exact ⟨ng _ _ (by omega), ng _ _ (by omega)⟩
open Jvm.Free.Fl in
theorem own_z0 : FP.dconst0 = FP.l2d 0 := by decide +kernel
theorem own_z1 : FP.dconst1 = (4607182418800017408 : UInt64) := rfl
theorem own_p1 : (4696837146684686336 : UInt64) = FP.l2d 1000000 := by decide +kernel
theorem own_p3 : (4703696862291427328 : UInt64) = FP.l2d 3000000 := by decide +kernel
theorem own_p7 : (4709274203742797824 : UInt64) = FP.l2d 7000000 := by decide +kernel
open Jvm.Free.Fl in
theorem own_lf (x : Int64) : NoNaN64 (FP.l2d x) := nn_w rfl
theorem own_lc {p : UInt64} {P : Int64} (h : p = FP.l2d P) (hP : B53 P) (o : CmpOp) : cmpValue (FP.dcmp p FP.dconst0) o = lcmpW P 0 := by
  rw [h, own_z0]; exact dcmpV_w hP ⟨by decide, by decide⟩ o
theorem own_inf {p : UInt64} {P : Int64} (h : p = FP.l2d P) : ¬ (0 : Int32) < cmpValue (FP.dcmp (p &&& 0x7fffffffffffffff) 9218868437227405311) .l := by
  subst h
  have f : FP.Core.DFin (FP.l2d P) := FP.Core.l2d_fin P
  rcases (FP.Core.le_max (FP.Core.l2d_notNaN P)).mpr f with q | q
  · rw [show FP.dcmp (FP.l2d P &&& 0x7fffffffffffffff) 9218868437227405311 = some .lt from q]; decide
  · rw [show FP.dcmp (FP.l2d P &&& 0x7fffffffffffffff) 9218868437227405311 = some .eq from q]; decide
theorem own_ng {o : Option Ordering} (h : own_le o) : ¬ (0 : Int32) < cmpValue o .g := by
  rcases h with rfl | rfl <;> decide
theorem own_nl {P : Int64} (h : 0 ≤ P.toInt ∧ P.toInt < 9007199254740992) : ¬ P < 0 := fun q => by have := own_ltL q; have z : (0 : Int64).toInt = 0 := by decide
                                                                                                   omega
theorem own_b {P : Int64} (h : 0 ≤ P.toInt ∧ P.toInt < 9007199254740992) : B53 P := ⟨by omega, h.2⟩
theorem own_m2 {v : UInt64} {P : Int64} (h : v = FP.l2d P) (hP : 0 ≤ P.toInt ∧ P.toInt < 9007199254740992) : Jvm.Free.Fl.NoNaN64 (FP.dmul v (4517329193108106637 : UInt64)) := by
  subst h
  refine Jvm.Free.Fl.val64_no.mpr ?_
  rcases own_mul hP.1 with ⟨c, q, e⟩ | e
  · rw [show FP.Core.val64 (FP.dmul (FP.l2d P) (4517329193108106637 : UInt64)) = _ from e]; exact FP.Core.Datum.noConfusion
  · rw [show FP.Core.val64 (FP.dmul (FP.l2d P) (4517329193108106637 : UInt64)) = _ from e]; exact FP.Core.Datum.noConfusion
theorem own_g {v : UInt64} {P : Int64} (h : v = FP.l2d P) (hP : 0 ≤ P.toInt ∧ P.toInt < 9007199254740992) : own_ge (FP.dadd FP.dconst1 (FP.dmul v (4517329193108106637 : UInt64))) := by
  subst h; exact own_den hP.1
theorem own_m3 {v : UInt64} {P : Int64} (h : v = FP.l2d P) (hP : 0 ≤ P.toInt ∧ P.toInt < 9007199254740992) : Jvm.Free.Fl.NoNaN64 (FP.dadd FP.dconst1 (FP.dmul v (4517329193108106637 : UInt64))) := Jvm.Free.Fl.val64_no.mpr (own_g h hP).1
theorem own_m4 {v : UInt64} {P : Int64} (x : Int64) (h : v = FP.l2d P) (hP : 0 ≤ P.toInt ∧ P.toInt < 9007199254740992) : Jvm.Free.Fl.NoNaN64 (FP.ddiv (FP.l2d x) (FP.dadd FP.dconst1 (FP.dmul v (4517329193108106637 : UInt64)))) := Jvm.Free.Fl.val64_no.mpr (own_quo (own_g h hP)).1
theorem own_sc {x : Int64} {T : UInt64} {c : Nat} {k : Int} (hT : FP.Core.val64 T = .fin false c k) : Jvm.Free.Fl.NoNaN64 (FP.dmul (FP.l2d x) T) := by
  refine Jvm.Free.Fl.val64_no.mpr ?_
  obtain ⟨c', q, ea⟩ := FP.Core.l2d_shape x
  rw [show FP.Core.val64 (FP.dmul (FP.l2d x) T) = _ from FP.Core.val64_dmul _ _, show FP.Core.val64 (FP.l2d x) = _ from ea, hT]
  exact FP.Core.roundRatio_ne_nan _ _ _ _ _
theorem own_ex0 {x : Int64} {r : UInt64} (h : r = FP.ddiv (FP.l2d x) (FP.dadd FP.dconst1 (FP.dmul FP.dconst0 (4517329193108106637 : UInt64)))) : r = FP.dmul (FP.l2d x) FP.dconst1 := by
  rw [h, show FP.dadd FP.dconst1 (FP.dmul FP.dconst0 (4517329193108106637 : UInt64)) = 4607182418800017408 from own_d0]; exact own_div own_s1 own_s1 (by decide)
theorem own_ex1 {x : Int64} {r : UInt64} (h : r = FP.ddiv (FP.l2d x) (FP.dadd FP.dconst1 (FP.dmul (4696837146684686336 : UInt64) (4517329193108106637 : UInt64)))) : r = FP.dmul (FP.l2d x) (4602678819172646912 : UInt64) := by
  rw [h, own_p1, show FP.dadd FP.dconst1 (FP.dmul (FP.l2d 1000000) (4517329193108106637 : UInt64)) = _ from own_d1]; exact own_div own_s2 own_h1 (by decide)
theorem own_ex2 {x : Int64} {r : UInt64} (h : r = FP.ddiv (FP.l2d x) (FP.dadd FP.dconst1 (FP.dmul (4703696862291427328 : UInt64) (4517329193108106637 : UInt64)))) : r = FP.dmul (FP.l2d x) (4598175219545276416 : UInt64) := by
  rw [h, own_p3, show FP.dadd FP.dconst1 (FP.dmul (FP.l2d 3000000) (4517329193108106637 : UInt64)) = _ from own_d2]; exact own_div own_s4 own_h2 (by decide)
theorem own_ex3 {x : Int64} {r : UInt64} (h : r = FP.ddiv (FP.l2d x) (FP.dadd FP.dconst1 (FP.dmul (4709274203742797824 : UInt64) (4517329193108106637 : UInt64)))) : r = FP.dmul (FP.l2d x) (4593671619917905920 : UInt64) := by
  rw [h, own_p7, show FP.dadd FP.dconst1 (FP.dmul (FP.l2d 7000000) (4517329193108106637 : UInt64)) = _ from own_d3]; exact own_div own_s8 own_h3 (by decide)
theorem own_a {q a : Int32} (h : q &&& (2147483647 : Int32) = a) : 0 ≤ a.toInt64.toInt ∧ a.toInt64.toInt < 9007199254740992 := by
  have m : (q &&& (2147483647 : Int32)).toInt = q.toInt % (2 ^ 31 : Nat) := c_mask _ 2147483647 31 (by decide) (by decide)
  have e := c_i2l a
  rw [h] at m
  omega
theorem own_pp {q a : Int32} (h : q &&& (1048575 : Int32) = a) : 0 ≤ a.toInt64.toInt ∧ a.toInt64.toInt < 9007199254740992 := by
  have m : (q &&& (1048575 : Int32)).toInt = q.toInt % (2 ^ 20 : Nat) := c_mask _ 1048575 20 (by decide) (by decide)
  have e := c_i2l a
  rw [h] at m
  omega
theorem own_xb {c a : Int32} {x : Int64} (h : c.toInt64 - a.toInt64 = x) (ha : 0 ≤ a.toInt64.toInt ∧ a.toInt64.toInt < 9007199254740992) : B53 x := by
  have e := c_i2l c
  have e2 := c_i2l a
  have s := c_lsub c.toInt64 a.toInt64
  have r := rng64 (c.toInt64 - a.toInt64)
  have r1 := rng32 c
  have r2 := rng32 a
  rw [h] at s r
  exact ⟨by omega, by omega⟩
theorem own_ds {c a : Int32} {x : Int64} (h : c.toInt64 - a.toInt64 = x) : FP.dsub (FP.l2d c.toInt64) (FP.l2d a.toInt64) = FP.l2d x := by
  have b : ∀ y : Int32, B53 y.toInt64 := fun y => by
    have e := c_i2l y
    have r := rng32 y
    exact ⟨by omega, by omega⟩
  rw [dsub_w (b c) (b a), h]
theorem own_x0 {x : Int64} (h : ¬ x < 0) : 0 ≤ x.toInt := by have := own_nltL h; have z : (0 : Int64).toInt = 0 := by decide
                                                             omega
theorem own_x1 {x : Int64} (h : x < 0) : x.toInt < 0 := by have := own_ltL h; have z : (0 : Int64).toInt = 0 := by decide
                                                           omega
theorem d2_0 : decode jdk_30_method_1_code 0 = .ok (.aload_n 0, 1) := by decide +kernel
theorem d2_1 : decode jdk_30_method_1_code 1 = .ok (.invokespecial 1, 3) := by decide +kernel
theorem d2_4 : decode jdk_30_method_1_code 4 = .ok (.return_, 1) := by decide +kernel
theorem pn_2 : plainName "java/lang/Record" = true := by first | (simp [plainName, overriddenIn]; done) | decide +kernel
theorem ef_2 (m : MethodId) (x0 : Addr) : entryFrame m #[(.ref x0)] 1 = mkF m 0 #[.val (.ref x0)] [] := by first | (simp [entryFrame, mkF, argsToLocals, Value.category]; done) | rfl
def Q2 (Z : State) (a1 : Addr) (h0 : Heap) (n0 : Nat) (v : Option Value) (h : Heap) (L : List Loc) : Prop := v = none ∧ Fr n0 L ∧ h = h0
set_option maxRecDepth 65536 in
set_option maxHeartbeats 40000000 in
theorem rm2 (l : Launch) (Z : State) (a0 : Array Value) (hw : ∀ d ∈ tables_1, d.before a0 Z = true) (ws : List Jvm.Cond) (a1 : Addr) (h0 : Heap) (n0 : Nat) (Z0 : n0 ≤ h0.size)  :
    MetFree l (⟨"java/lang/Record", "<init>", "()V"⟩ : MethodName) (head1 (Jvm.Cond.code (⟨"java/lang/Record", "<init>", "()V"⟩ : MethodName) jdk_30_method_1_code 1 none :: ws) ({ frames := 1, cells := 0, slots := 0, locals := 12 } : Room)) (fun a U => a = #[(.ref a1)] ∧ Z.Warmed39 U.vm ∧ U.heap = h0) (fun _ _ _ _ _ => True) (fun _ U o U' => ∃ v L, o = .returned v ∧ Q2 Z a1 h0 n0 v U'.heap L ∧ FrameEnd U o U' L ({ frames := 1, cells := 0, slots := 0, locals := 12 } : Room).cells ({ frames := 1, cells := 0, slots := 0, locals := 12 } : Room).slots) := by
  refine MetFree.of_bodySF (plainFor_of_name pn_2) hisR ?_
  intro p e s m args below meth c s₁ Bd hml0 hP hK
  obtain ⟨rfl, hZ, hh⟩ := hP
  have hx := Bd.exec
  have hby := Bd.bytes
  have hml : c.maxLocals = 1 := hml0
  have hown : s.vm.findClass "java/lang/Record" = some m.cls := findClass_of_methodNamed Bd.named
  have hnm := (name_of_methodNamed Bd.named Bd.method).1
  have X0 : Stand p l e ({ frames := 1, cells := 0, slots := 0, locals := 12 } : Room) s m #[(.ref a1)] below meth c s₁ [] 0 0 := Stand.of_body Bd
  have e0 : s₁.heap = h0 := by rw [← hh, Bd.state]; rfl
  have N0 := Fr.nil n0
  suffices G0 : ∀ K : State → Prop, (∀ (n : State) (v : Option Value) (L : List Loc), n.status = .running → Ended n below (.returned v) → Q2 Z a1 h0 n0 v n.heap L → FrameEnd s (.returned v) n L ({ frames := 1, cells := 0, slots := 0, locals := 12 } : Room).cells ({ frames := 1, cells := 0, slots := 0, locals := 12 } : Room).slots → K n) → own_Go p e below K (s₁.setTop (mkF m 0 #[.val (.ref a1)] [])) by
    obtain ⟨t, st, o, a, b, v, L, e1, q, fe⟩ := G0 (fun n => ∃ o, n.status = .running ∧ Ended n below o ∧ ∃ v L, o = .returned v ∧ Q2 Z a1 h0 n0 v n.heap L ∧ FrameEnd s o n L ({ frames := 1, cells := 0, slots := 0, locals := 12 } : Room).cells ({ frames := 1, cells := 0, slots := 0, locals := 12 } : Room).slots) (fun n v L a b q f => ⟨_, a, b, v, L, rfl, q, f⟩)
    exact ⟨t, o, castTop (ef_2 m a1) st, a, b, v, L, e1, q, fe⟩
  intro K fin
  show own_Go p e below K (s₁.setTop (mkF m 0 #[.val (.ref a1)] []))
  refine own_st (fun t k => XS.aloadN X0.here hx rfl (hb hby d2_0) rfl rfl k) ?_
  show own_Go p e below K (s₁.setTop (mkF m 1 #[.val (.ref a1)] [(.ref a1)]))
  obtain ⟨T1, X1, e1, st1⟩ := initO X0 hx hZ hown (hw _ (List.mem_of_getElem? (i := 14) rfl)) (hw _ (List.mem_of_getElem? (i := 15) rfl)) (hw _ (List.mem_of_getElem? (i := 16) rfl)) e0 (g := (mkF m 1 #[.val (.ref a1)] [(.ref a1)])) rfl (by rw [hml]; rfl) rfl (hb hby d2_1) (by decide) (W := 0) (by show 2 * 0 + _ ≤ _; exact Nat.le_of_eq rfl) (by decide)
  refine own_st st1 ?_
  show own_Go p e below K (T1.setTop (mkF m 4 #[.val (.ref a1)] []))
  try clear st1
  obtain ⟨fs, hr, hrun, hended, hW, hsame⟩ := X1.leave (v := none) (fun _ => rfl)
  refine ⟨_, X1.returnOut hx Bd.returns (hb hby d2_4) hr, fin _ _ _ hrun hended ?_ ⟨⟨_, rfl⟩, hW, hsame.mono (by decide) (by decide)⟩⟩
  show Q2 Z a1 h0 n0 _ T1.heap _
  rw [e1]
  exact ⟨rfl, N0, rfl⟩
theorem d4_0 : decode jdk_117_method_7_code 0 = .ok (.dload_n 0, 1) := by decide +kernel
theorem d4_1 : decode jdk_117_method_7_code 1 = .ok (.invokestatic 38, 3) := by decide +kernel
theorem d4_4 : decode jdk_117_method_7_code 4 = .ok (.ldc2_w 111, 3) := by decide +kernel
theorem d4_7 : decode jdk_117_method_7_code 7 = .ok (.dcmp .l, 1) := by decide +kernel
theorem d4_8 : decode jdk_117_method_7_code 8 = .ok (.ifCond .le 7, 3) := by decide +kernel
theorem d4_15 : decode jdk_117_method_7_code 15 = .ok (.iconst 0, 1) := by decide +kernel
theorem d4_16 : decode jdk_117_method_7_code 16 = .ok (.ireturn, 1) := by decide +kernel
theorem pn_4 : plainName "java/lang/Double" = true := by first | (simp [plainName, overriddenIn]; done) | decide +kernel
theorem pd_4_3 : parseMethodDescriptor "(D)D" = some ⟨[.double], some .double⟩ := by decide +kernel
theorem ef_4 (m : MethodId) (x0 : UInt64) : entryFrame m #[(.double x0)] 2 = mkF m 0 #[.val (.double x0), .second] [] := by first | (simp [entryFrame, mkF, argsToLocals, Value.category]; done) | rfl
def Q4 (Z : State) (p1 : UInt64) (Pz : Int64) (h0 : Heap) (n0 : Nat) (v : Option Value) (h : Heap) (L : List Loc) : Prop := ∃ (r : Int32), v = some (.int r) ∧ (r = (0 : Int32)) ∧ Fr n0 L ∧ h = h0
set_option maxRecDepth 65536 in
set_option maxHeartbeats 40000000 in
theorem rm4 (l : Launch) (Z : State) (a0 : Array Value) (hw : ∀ d ∈ tables_1, d.before a0 Z = true) (ws : List Jvm.Cond) (p1 : UInt64) (Pz : Int64) (h0 : Heap) (n0 : Nat) (Z0 : n0 ≤ h0.size) (hq1 : p1 = FP.l2d Pz) :
    MetFree l (⟨"java/lang/Double", "isInfinite", "(D)Z"⟩ : MethodName) (head1 (Jvm.Cond.code (⟨"java/lang/Double", "isInfinite", "(D)Z"⟩ : MethodName) jdk_117_method_7_code 2 (some .boolean) :: ws) ({ frames := 1, cells := 0, slots := 0, locals := 13 } : Room)) (fun a U => a = #[(.double p1)] ∧ Z.Warmed39 U.vm ∧ U.heap = h0) (fun _ _ _ _ _ => True) (fun _ U o U' => ∃ v L, o = .returned v ∧ Q4 Z p1 Pz h0 n0 v U'.heap L ∧ FrameEnd U o U' L ({ frames := 1, cells := 0, slots := 0, locals := 13 } : Room).cells ({ frames := 1, cells := 0, slots := 0, locals := 13 } : Room).slots) := by
  refine MetFree.of_bodySF (plainFor_of_name pn_4) hisR ?_
  intro p e s m args below meth c s₁ Bd hml0 hP hK
  obtain ⟨rfl, hZ, hh⟩ := hP
  have hx := Bd.exec
  have hby := Bd.bytes
  have hml : c.maxLocals = 2 := hml0
  have hown : s.vm.findClass "java/lang/Double" = some m.cls := findClass_of_methodNamed Bd.named
  have hnm := (name_of_methodNamed Bd.named Bd.method).1
  have X0 : Stand p l e ({ frames := 1, cells := 0, slots := 0, locals := 13 } : Room) s m #[(.double p1)] below meth c s₁ [] 0 0 := Stand.of_body Bd
  have e0 : s₁.heap = h0 := by rw [← hh, Bd.state]; rfl
  have N0 := Fr.nil n0
  suffices G0 : ∀ K : State → Prop, (∀ (n : State) (v : Option Value) (L : List Loc), n.status = .running → Ended n below (.returned v) → Q4 Z p1 Pz h0 n0 v n.heap L → FrameEnd s (.returned v) n L ({ frames := 1, cells := 0, slots := 0, locals := 13 } : Room).cells ({ frames := 1, cells := 0, slots := 0, locals := 13 } : Room).slots → K n) → own_Go p e below K (s₁.setTop (mkF m 0 #[.val (.double p1), .second] [])) by
    obtain ⟨t, st, o, a, b, v, L, e1, q, fe⟩ := G0 (fun n => ∃ o, n.status = .running ∧ Ended n below o ∧ ∃ v L, o = .returned v ∧ Q4 Z p1 Pz h0 n0 v n.heap L ∧ FrameEnd s o n L ({ frames := 1, cells := 0, slots := 0, locals := 13 } : Room).cells ({ frames := 1, cells := 0, slots := 0, locals := 13 } : Room).slots) (fun n v L a b q f => ⟨_, a, b, v, L, rfl, q, f⟩)
    exact ⟨t, o, castTop (ef_4 m p1) st, a, b, v, L, e1, q, fe⟩
  intro K fin
  show own_Go p e below K (s₁.setTop (mkF m 0 #[.val (.double p1), .second] []))
  refine own_st (fun t k => XS.dloadN X0.here hx rfl (hb hby d4_0) rfl k) ?_
  show own_Go p e below K (s₁.setTop (mkF m 1 #[.val (.double p1), .second] [(.double p1)]))
  obtain ⟨T1, X1, e1, st1⟩ := natS X0 hx hZ (y := (⟨"java/lang/Math", "abs", "(D)D"⟩ : MethodName)) hown (hw _ (List.mem_of_getElem? (i := 21) rfl)) (hw _ (List.mem_of_getElem? (i := 22) rfl)) (hw _ (List.mem_of_getElem? (i := 23) rfl)) (hw _ (List.mem_of_getElem? (i := 24) rfl)) (by decide) e0 (fun hc => Jvm.Free.Fl.Abs.absD_pays p1 hc (by decide) (by decide)) (W := 0) (g := (mkF m 1 #[.val (.double p1), .second] [(.double p1)])) rfl (by rw [hml]; rfl) (argsL := [(.double p1)]) (rest := []) (lenOf pd_4_3 rfl) rfl (by show 2 * 0 + _ ≤ _; exact Nat.le_of_eq rfl) (hb hby d4_1) (by decide) (by decide) ⟨rfl, (hq1 ▸ own_lf Pz)⟩ rfl
  refine own_st st1 ?_
  show own_Go p e below K (T1.setTop (mkF m 4 #[.val (.double p1), .second] [(.double (p1 &&& 0x7fffffffffffffff))]))
  try clear st1
  refine own_st (X1.ldc2DoubleC hx hown (mvT hZ (hw _ (List.mem_of_getElem? (i := 25) rfl))) (g := (mkF m 4 #[.val (.double p1), .second] [(.double (p1 &&& 0x7fffffffffffffff))])) rfl (hb hby d4_4)) ?_
  show own_Go p e below K (T1.setTop (mkF m 7 #[.val (.double p1), .second] [(.double (9218868437227405311 : UInt64)), (.double (p1 &&& 0x7fffffffffffffff))]))
  refine own_st (fun t k => XS.dcmpS X1.here hx rfl (hb hby d4_7) rfl rfl k) ?_
  show own_Go p e below K (T1.setTop (mkF m 8 #[.val (.double p1), .second] [(.int (cmpValue (FP.dcmp (p1 &&& 0x7fffffffffffffff) (9218868437227405311 : UInt64)) .l))]))
  refine own_st (fun t k => XS.ifYes X1.here hx rfl (pc0 := 8) (pc' := 15) rfl (hb hby d4_8) rfl ((if0 _ _).trans (flt (own_inf hq1 : ¬ ((0 : Int32) < (cmpValue (FP.dcmp (p1 &&& 0x7fffffffffffffff) (9218868437227405311 : UInt64)) .l)))).2.2.2) (by decide) (by decide) k) ?_
  show own_Go p e below K (T1.setTop (mkF m 15 #[.val (.double p1), .second] []))
  refine own_st (fun t k => XS.iconst X1.here hx rfl (hb hby d4_15) k) ?_
  show own_Go p e below K (T1.setTop (mkF m 16 #[.val (.double p1), .second] [(.int (0 : Int32))]))
  obtain ⟨fs, hr, hrun, hended, hW, hsame⟩ := X1.leave (v := some (.int (nar .boolean (0 : Int32)))) (fun h => by rw [Bd.returns] at h; cases h)
  refine ⟨_, retN X1 hx (t := .boolean) Bd.returns (by simp) (hb hby d4_16) hr, fin _ _ _ hrun hended ?_ ⟨⟨_, rfl⟩, hW, hsame.mono (by decide) (by decide)⟩⟩
  show Q4 Z p1 Pz h0 n0 _ T1.heap _
  rw [e1]
  exact ⟨_, rfl, (by decide), N0, rfl⟩
theorem d1_0 : decode prog_15_method_1_code 0 = .ok (.aload_n 0, 1) := by decide +kernel
theorem d1_1 : decode prog_15_method_1_code 1 = .ok (.invokespecial 1, 3) := by decide +kernel
theorem d1_4 : decode prog_15_method_1_code 4 = .ok (.dload_n 1, 1) := by decide +kernel
theorem d1_5 : decode prog_15_method_1_code 5 = .ok (.dconst 0, 1) := by decide +kernel
theorem d1_6 : decode prog_15_method_1_code 6 = .ok (.dcmp .l, 1) := by decide +kernel
theorem d1_7 : decode prog_15_method_1_code 7 = .ok (.ifCond .lt 10, 3) := by decide +kernel
theorem d1_10 : decode prog_15_method_1_code 10 = .ok (.dload_n 1, 1) := by decide +kernel
theorem d1_11 : decode prog_15_method_1_code 11 = .ok (.invokestatic 7, 3) := by decide +kernel
theorem d1_14 : decode prog_15_method_1_code 14 = .ok (.ifCond .eq 17, 3) := by decide +kernel
theorem d1_31 : decode prog_15_method_1_code 31 = .ok (.dload_n 3, 1) := by decide +kernel
theorem d1_32 : decode prog_15_method_1_code 32 = .ok (.dconst 0, 1) := by decide +kernel
theorem d1_33 : decode prog_15_method_1_code 33 = .ok (.dcmp .l, 1) := by decide +kernel
theorem d1_34 : decode prog_15_method_1_code 34 = .ok (.ifCond .lt 10, 3) := by decide +kernel
theorem d1_37 : decode prog_15_method_1_code 37 = .ok (.dload_n 3, 1) := by decide +kernel
theorem d1_38 : decode prog_15_method_1_code 38 = .ok (.invokestatic 7, 3) := by decide +kernel
theorem d1_41 : decode prog_15_method_1_code 41 = .ok (.ifCond .eq 17, 3) := by decide +kernel
theorem d1_58 : decode prog_15_method_1_code 58 = .ok (.aload_n 0, 1) := by decide +kernel
theorem d1_59 : decode prog_15_method_1_code 59 = .ok (.dload_n 1, 1) := by decide +kernel
theorem d1_60 : decode prog_15_method_1_code 60 = .ok (.putfield 23, 3) := by decide +kernel
theorem d1_63 : decode prog_15_method_1_code 63 = .ok (.aload_n 0, 1) := by decide +kernel
theorem d1_64 : decode prog_15_method_1_code 64 = .ok (.dload_n 3, 1) := by decide +kernel
theorem d1_65 : decode prog_15_method_1_code 65 = .ok (.putfield 29, 3) := by decide +kernel
theorem d1_68 : decode prog_15_method_1_code 68 = .ok (.return_, 1) := by decide +kernel
theorem pn_1 : plainName "com/example/ms2rank/ms2rank/matching/MassTolerance" = true := by first | (simp [plainName, overriddenIn]; done) | decide +kernel
theorem pd_1_1 : parseMethodDescriptor "()V" = some ⟨[], none⟩ := by decide +kernel
theorem pd_1_2 : parseMethodDescriptor "(D)Z" = some ⟨[.double], some .boolean⟩ := by decide +kernel
theorem ef_1 (m : MethodId) (x0 : Addr) (x1 : UInt64) (x2 : UInt64) : entryFrame m #[(.ref x0), (.double x1), (.double x2)] 5 = mkF m 0 #[.val (.ref x0), .val (.double x1), .second, .val (.double x2), .second] [] := by first | (simp [entryFrame, mkF, argsToLocals, Value.category]; done) | rfl
def Q1 (Z : State) (a1 : Addr) (p1 : UInt64) (p2 : UInt64) (Pz : Int64) (Az : Int64) (h0 : Heap) (n0 : Nat) (v : Option Value) (h : Heap) (L : List Loc) : Prop := v = none ∧ Fr n0 L ∧ Keep h0 h [a1] ∧ (Exa Z h a1 "com/example/ms2rank/ms2rank/matching/MassTolerance") ∧ (Fld Z h a1 "com/example/ms2rank/ms2rank/matching/MassTolerance" "ppm" "D" (.double p1)) ∧ (Fld Z h a1 "com/example/ms2rank/ms2rank/matching/MassTolerance" "absolute" "D" (.double p2))
set_option maxRecDepth 65536 in
set_option maxHeartbeats 40000000 in
theorem rm1 (l : Launch) (Z : State) (a0 : Array Value) (hw : ∀ d ∈ tables_1, d.before a0 Z = true) (ws : List Jvm.Cond) (a1 : Addr) (p1 : UInt64) (p2 : UInt64) (Pz : Int64) (Az : Int64) (h0 : Heap) (n0 : Nat) (Z0 : n0 ≤ h0.size) (g_a1 : n0 ≤ a1) (P0 : Exa Z h0 a1 "com/example/ms2rank/ms2rank/matching/MassTolerance") (P1 : Fld Z h0 a1 "com/example/ms2rank/ms2rank/matching/MassTolerance" "ppm" "D" (defaultValue .double)) (P2 : Fld Z h0 a1 "com/example/ms2rank/ms2rank/matching/MassTolerance" "absolute" "D" (defaultValue .double)) (hq1 : p1 = FP.l2d Pz) (hq2 : p2 = FP.l2d Az) (hq3 : 0 ≤ Pz.toInt ∧ Pz.toInt < 9007199254740992) (hq4 : 0 ≤ Az.toInt ∧ Az.toInt < 9007199254740992) :
    MetFree l (⟨"com/example/ms2rank/ms2rank/matching/MassTolerance", "<init>", "(DD)V"⟩ : MethodName) (head1 (Jvm.Cond.code (⟨"com/example/ms2rank/ms2rank/matching/MassTolerance", "<init>", "(DD)V"⟩ : MethodName) prog_15_method_1_code 5 none :: ws) ({ frames := 2, cells := 0, slots := 0, locals := 26 } : Room)) (fun a U => a = #[(.ref a1), (.double p1), (.double p2)] ∧ Z.Warmed39 U.vm ∧ U.heap = h0) (fun _ _ _ _ _ => True) (fun _ U o U' => ∃ v L, o = .returned v ∧ Q1 Z a1 p1 p2 Pz Az h0 n0 v U'.heap L ∧ FrameEnd U o U' L ({ frames := 2, cells := 0, slots := 0, locals := 26 } : Room).cells ({ frames := 2, cells := 0, slots := 0, locals := 26 } : Room).slots) := by
  refine MetFree.of_bodySF (plainFor_of_name pn_1) hisR ?_
  intro p e s m args below meth c s₁ Bd hml0 hP hK
  obtain ⟨rfl, hZ, hh⟩ := hP
  have hx := Bd.exec
  have hby := Bd.bytes
  have hml : c.maxLocals = 5 := hml0
  have hown : s.vm.findClass "com/example/ms2rank/ms2rank/matching/MassTolerance" = some m.cls := findClass_of_methodNamed Bd.named
  have hnm := (name_of_methodNamed Bd.named Bd.method).1
  have X0 : Stand p l e ({ frames := 2, cells := 0, slots := 0, locals := 26 } : Room) s m #[(.ref a1), (.double p1), (.double p2)] below meth c s₁ [] 0 0 := Stand.of_body Bd
  have e0 : s₁.heap = h0 := by rw [← hh, Bd.state]; rfl
  have N0 := Fr.nil n0
  suffices G0 : ∀ K : State → Prop, (∀ (n : State) (v : Option Value) (L : List Loc), n.status = .running → Ended n below (.returned v) → Q1 Z a1 p1 p2 Pz Az h0 n0 v n.heap L → FrameEnd s (.returned v) n L ({ frames := 2, cells := 0, slots := 0, locals := 26 } : Room).cells ({ frames := 2, cells := 0, slots := 0, locals := 26 } : Room).slots → K n) → own_Go p e below K (s₁.setTop (mkF m 0 #[.val (.ref a1), .val (.double p1), .second, .val (.double p2), .second] [])) by
    obtain ⟨t, st, o, a, b, v, L, e1, q, fe⟩ := G0 (fun n => ∃ o, n.status = .running ∧ Ended n below o ∧ ∃ v L, o = .returned v ∧ Q1 Z a1 p1 p2 Pz Az h0 n0 v n.heap L ∧ FrameEnd s o n L ({ frames := 2, cells := 0, slots := 0, locals := 26 } : Room).cells ({ frames := 2, cells := 0, slots := 0, locals := 26 } : Room).slots) (fun n v L a b q f => ⟨_, a, b, v, L, rfl, q, f⟩)
    exact ⟨t, o, castTop (ef_1 m a1 p1 p2) st, a, b, v, L, e1, q, fe⟩
  intro K fin
  show own_Go p e below K (s₁.setTop (mkF m 0 #[.val (.ref a1), .val (.double p1), .second, .val (.double p2), .second] []))
  refine own_st (fun t k => XS.aloadN X0.here hx rfl (hb hby d1_0) rfl rfl k) ?_
  show own_Go p e below K (s₁.setTop (mkF m 1 #[.val (.ref a1), .val (.double p1), .second, .val (.double p2), .second] [(.ref a1)]))
  obtain ⟨_, _, ⟨T1, L1, k1, n1⟩, -, X1, ⟨Lc1, hQ1, l1, y1, z1⟩, st1⟩ := X0.specialBack hx (y := (⟨"java/lang/Record", "<init>", "()V"⟩ : MethodName)) rfl hown (mvT hZ (hw _ (List.mem_of_getElem? (i := 9) rfl))) (mvT hZ (hw _ (List.mem_of_getElem? (i := 10) rfl))) (mvT hZ (hw _ (List.mem_of_getElem? (i := 13) rfl))) (by decide) (backOf (W := 0) (rm2 l Z a0 hw [] a1 h0 n0 Z0) hZ (hw _ (List.mem_of_getElem? (i := 13) rfl)) (hw _ (List.mem_of_getElem? (i := 12) rfl)) (by decide) (by decide)) (g := (mkF m 1 #[.val (.ref a1), .val (.double p1), .second, .val (.double p2), .second] [(.ref a1)])) rfl (by rw [hml]; rfl) (Steps.refl _) (a := a1) (argsL := []) (rest := []) (lenOf pd_1_1 rfl) rfl (by show 2 * 0 + _ ≤ _; exact Nat.le_of_eq rfl) (hb hby d1_1) (fun _ _ => ⟨rfl, e0, (by decide : 0 + 0 ≤ _), (by decide : 0 + 0 ≤ _)⟩)
  dsimp only [Pt.U, Pt.locs, Pt.cells, Pt.slots] at X1 l1 y1 z1 st1 hQ1
  obtain ⟨rfl, N1q, e1⟩ := hQ1
  have N1 : Fr n0 L1 := by rw [l1]; exact Fr.app N0 N1q
  clear l1
  have y1' : k1 = 0 := y1
  have z1' : n1 = 0 := z1
  clear y1 z1
  subst y1' z1'
  refine own_tr st1 ?_
  show own_Go p e below K (T1.setTop (mkF m 4 #[.val (.ref a1), .val (.double p1), .second, .val (.double p2), .second] []))
  try clear st1 N1q
  refine own_st (fun t k => XS.dloadN X1.here hx rfl (hb hby d1_4) rfl k) ?_
  show own_Go p e below K (T1.setTop (mkF m 5 #[.val (.ref a1), .val (.double p1), .second, .val (.double p2), .second] [(.double p1)]))
  refine own_st (fun t k => XS.dconst0 X1.here hx rfl (hb hby d1_5) rfl k) ?_
  show own_Go p e below K (T1.setTop (mkF m 6 #[.val (.ref a1), .val (.double p1), .second, .val (.double p2), .second] [(.double FP.dconst0), (.double p1)]))
  refine own_st (fun t k => XS.dcmpS X1.here hx rfl (hb hby d1_6) rfl (own_lc hq1 (own_b hq3) .l) k) ?_
  show own_Go p e below K (T1.setTop (mkF m 7 #[.val (.ref a1), .val (.double p1), .second, .val (.double p2), .second] [(.int (lcmpW Pz (0 : Int64)))]))
  refine own_st (fun t k => XS.ifNo X1.here hx rfl (hb hby d1_7) rfl ((if0 _ _).trans (flt (fun q => (own_nl hq3 : ¬ (Pz < (0 : Int64))) ((lw_lt Pz (0 : Int64)).mp q))).1) k) ?_
  show own_Go p e below K (T1.setTop (mkF m 10 #[.val (.ref a1), .val (.double p1), .second, .val (.double p2), .second] []))
  refine own_st (fun t k => XS.dloadN X1.here hx rfl (hb hby d1_10) rfl k) ?_
  show own_Go p e below K (T1.setTop (mkF m 11 #[.val (.ref a1), .val (.double p1), .second, .val (.double p2), .second] [(.double p1)]))
  obtain ⟨_, _, ⟨T2, L2, k2, n2⟩, -, X2, ⟨Lc2, hQ2, l2, y2, z2⟩, st2⟩ := Jvm.LawKit.callS X1 hx (y := (⟨"java/lang/Double", "isInfinite", "(D)Z"⟩ : MethodName)) hown (mvT hZ (hw _ (List.mem_of_getElem? (i := 17) rfl))) (mvT hZ (hw _ (List.mem_of_getElem? (i := 18) rfl))) (mvT hZ (hw _ (List.mem_of_getElem? (i := 19) rfl))) (mvT hZ (hw _ (List.mem_of_getElem? (i := 20) rfl))) (by decide) (backOf (W := 0) (rm4 l Z a0 hw [] p1 (Pz) h0 n0 Z0 hq1) hZ (hw _ (List.mem_of_getElem? (i := 20) rfl)) (hw _ (List.mem_of_getElem? (i := 19) rfl)) (by decide) (by decide)) (g := (mkF m 11 #[.val (.ref a1), .val (.double p1), .second, .val (.double p2), .second] [(.double p1)])) rfl (by rw [hml]; rfl) (argsL := [(.double p1)]) (rest := []) (lenOf pd_1_2 rfl) rfl (by show 2 * 0 + _ ≤ _; exact Nat.le_of_eq rfl) (hb hby d1_11) (fun _ _ => ⟨rfl, e1, (by decide : 0 + 0 ≤ _), (by decide : 0 + 0 ≤ _)⟩)
  dsimp only [Pt.U, Pt.locs, Pt.cells, Pt.slots] at X2 l2 y2 z2 st2 hQ2
  obtain ⟨r2, rfl, hr2, N2q, e2⟩ := hQ2
  have N2 : Fr n0 L2 := by rw [l2]; exact Fr.app N1 N2q
  clear l2
  have y2' : k2 = 0 := y2
  have z2' : n2 = 0 := z2
  clear y2 z2
  subst y2' z2'
  refine own_st st2 ?_
  show own_Go p e below K (T2.setTop (mkF m 14 #[.val (.ref a1), .val (.double p1), .second, .val (.double p2), .second] [(.int r2)]))
  try clear X1 e1 st2 N1 N2q
  refine own_st (fun t k => XS.ifYes X2.here hx rfl (pc0 := 14) (pc' := 31) rfl (hb hby d1_14) rfl ((if0 _ _).trans (teq (hr2 : r2 = (0 : Int32))).1) (by decide) (by decide) k) ?_
  show own_Go p e below K (T2.setTop (mkF m 31 #[.val (.ref a1), .val (.double p1), .second, .val (.double p2), .second] []))
  refine own_st (fun t k => XS.dloadN X2.here hx rfl (hb hby d1_31) rfl k) ?_
  show own_Go p e below K (T2.setTop (mkF m 32 #[.val (.ref a1), .val (.double p1), .second, .val (.double p2), .second] [(.double p2)]))
  refine own_st (fun t k => XS.dconst0 X2.here hx rfl (hb hby d1_32) rfl k) ?_
  show own_Go p e below K (T2.setTop (mkF m 33 #[.val (.ref a1), .val (.double p1), .second, .val (.double p2), .second] [(.double FP.dconst0), (.double p2)]))
  refine own_st (fun t k => XS.dcmpS X2.here hx rfl (hb hby d1_33) rfl (own_lc hq2 (own_b hq4) .l) k) ?_
  show own_Go p e below K (T2.setTop (mkF m 34 #[.val (.ref a1), .val (.double p1), .second, .val (.double p2), .second] [(.int (lcmpW Az (0 : Int64)))]))
  refine own_st (fun t k => XS.ifNo X2.here hx rfl (hb hby d1_34) rfl ((if0 _ _).trans (flt (fun q => (own_nl hq4 : ¬ (Az < (0 : Int64))) ((lw_lt Az (0 : Int64)).mp q))).1) k) ?_
  show own_Go p e below K (T2.setTop (mkF m 37 #[.val (.ref a1), .val (.double p1), .second, .val (.double p2), .second] []))
  refine own_st (fun t k => XS.dloadN X2.here hx rfl (hb hby d1_37) rfl k) ?_
  show own_Go p e below K (T2.setTop (mkF m 38 #[.val (.ref a1), .val (.double p1), .second, .val (.double p2), .second] [(.double p2)]))
  obtain ⟨_, _, ⟨T3, L3, k3, n3⟩, -, X3, ⟨Lc3, hQ3, l3, y3, z3⟩, st3⟩ := Jvm.LawKit.callS X2 hx (y := (⟨"java/lang/Double", "isInfinite", "(D)Z"⟩ : MethodName)) hown (mvT hZ (hw _ (List.mem_of_getElem? (i := 17) rfl))) (mvT hZ (hw _ (List.mem_of_getElem? (i := 18) rfl))) (mvT hZ (hw _ (List.mem_of_getElem? (i := 19) rfl))) (mvT hZ (hw _ (List.mem_of_getElem? (i := 20) rfl))) (by decide) (backOf (W := 0) (rm4 l Z a0 hw [] p2 (Az) h0 n0 Z0 hq2) hZ (hw _ (List.mem_of_getElem? (i := 20) rfl)) (hw _ (List.mem_of_getElem? (i := 19) rfl)) (by decide) (by decide)) (g := (mkF m 38 #[.val (.ref a1), .val (.double p1), .second, .val (.double p2), .second] [(.double p2)])) rfl (by rw [hml]; rfl) (argsL := [(.double p2)]) (rest := []) (lenOf pd_1_2 rfl) rfl (by show 2 * 0 + _ ≤ _; exact Nat.le_of_eq rfl) (hb hby d1_38) (fun _ _ => ⟨rfl, e2, (by decide : 0 + 0 ≤ _), (by decide : 0 + 0 ≤ _)⟩)
  dsimp only [Pt.U, Pt.locs, Pt.cells, Pt.slots] at X3 l3 y3 z3 st3 hQ3
  obtain ⟨r3, rfl, hr3, N3q, e3⟩ := hQ3
  have N3 : Fr n0 L3 := by rw [l3]; exact Fr.app N2 N3q
  clear l3
  have y3' : k3 = 0 := y3
  have z3' : n3 = 0 := z3
  clear y3 z3
  subst y3' z3'
  refine own_st st3 ?_
  show own_Go p e below K (T3.setTop (mkF m 41 #[.val (.ref a1), .val (.double p1), .second, .val (.double p2), .second] [(.int r3)]))
  try clear X2 e2 st3 N2 N3q
  refine own_st (fun t k => XS.ifYes X3.here hx rfl (pc0 := 41) (pc' := 58) rfl (hb hby d1_41) rfl ((if0 _ _).trans (teq (hr3 : r3 = (0 : Int32))).1) (by decide) (by decide) k) ?_
  show own_Go p e below K (T3.setTop (mkF m 58 #[.val (.ref a1), .val (.double p1), .second, .val (.double p2), .second] []))
  refine own_st (fun t k => XS.aloadN X3.here hx rfl (hb hby d1_58) rfl rfl k) ?_
  show own_Go p e below K (T3.setTop (mkF m 59 #[.val (.ref a1), .val (.double p1), .second, .val (.double p2), .second] [(.ref a1)]))
  refine own_st (fun t k => XS.dloadN X3.here hx rfl (hb hby d1_59) rfl k) ?_
  show own_Go p e below K (T3.setTop (mkF m 60 #[.val (.ref a1), .val (.double p1), .second, .val (.double p2), .second] [(.double p1), (.ref a1)]))
  obtain ⟨T4, h4, X4, e4, W4, st4⟩ := putF X3 hx hZ hown (host := "") (Or.inl (hw _ (List.mem_of_getElem? (i := 26) rfl))) Via.refl e3 P1 P0 (Or.inr ⟨(hw _ (List.mem_of_getElem? (i := 27) rfl)), rfl, hnm⟩) (hw _ (List.mem_of_getElem? (i := 4) rfl)) (ty := .double) (by decide) rfl rfl (g := (mkF m 60 #[.val (.ref a1), .val (.double p1), .second, .val (.double p2), .second] [(.double p1), (.ref a1)])) rfl rfl (hb hby d1_60)
  have fw4 : Fld Z h4 a1 "com/example/ms2rank/ms2rank/matching/MassTolerance" "ppm" "D" (.double p1) := P1.same W4
  have f5 : Exa Z h4 a1 "com/example/ms2rank/ms2rank/matching/MassTolerance" := P0.wr W4
  have f6 : Fld Z h4 a1 "com/example/ms2rank/ms2rank/matching/MassTolerance" "absolute" "D" (defaultValue .double) := P2.other W4 (Or.inr (slot_ne (Or.inr (hw _ (List.mem_of_getElem? (i := 29) rfl))) (Or.inr (hw _ (List.mem_of_getElem? (i := 27) rfl))) (by decide) (t := .double) (t' := .double) (by decide) (by decide)))
  have N4 := Fr.snoc X4 N3 g_a1
  have Z4 : n0 ≤ h4.size := Nat.le_trans Z0 (Keep.of_wr W4).1
  have K4 : Keep h0 h4 [a1] := (Keep.refl h0 [a1]).wr W4 (Or.inl (List.mem_of_getElem? (i := 0) rfl))
  refine own_st st4 ?_
  show own_Go p e below K (T4.setTop (mkF m 63 #[.val (.ref a1), .val (.double p1), .second, .val (.double p2), .second] []))
  try clear X3 e3 st4 P0 P2
  refine own_st (fun t k => XS.aloadN X4.here hx rfl (hb hby d1_63) rfl rfl k) ?_
  show own_Go p e below K (T4.setTop (mkF m 64 #[.val (.ref a1), .val (.double p1), .second, .val (.double p2), .second] [(.ref a1)]))
  refine own_st (fun t k => XS.dloadN X4.here hx rfl (hb hby d1_64) rfl k) ?_
  show own_Go p e below K (T4.setTop (mkF m 65 #[.val (.ref a1), .val (.double p1), .second, .val (.double p2), .second] [(.double p2), (.ref a1)]))
  obtain ⟨T7, h7, X7, e7, W7, st7⟩ := putF X4 hx hZ hown (host := "") (Or.inl (hw _ (List.mem_of_getElem? (i := 28) rfl))) Via.refl e4 f6 f5 (Or.inr ⟨(hw _ (List.mem_of_getElem? (i := 29) rfl)), rfl, hnm⟩) (hw _ (List.mem_of_getElem? (i := 4) rfl)) (ty := .double) (by decide) rfl rfl (g := (mkF m 65 #[.val (.ref a1), .val (.double p1), .second, .val (.double p2), .second] [(.double p2), (.ref a1)])) rfl rfl (hb hby d1_65)
  have fw7 : Fld Z h7 a1 "com/example/ms2rank/ms2rank/matching/MassTolerance" "absolute" "D" (.double p2) := f6.same W7
  have f8 : Exa Z h7 a1 "com/example/ms2rank/ms2rank/matching/MassTolerance" := f5.wr W7
  have f9 : Fld Z h7 a1 "com/example/ms2rank/ms2rank/matching/MassTolerance" "ppm" "D" (.double p1) := fw4.other W7 (Or.inr (slot_ne (Or.inr (hw _ (List.mem_of_getElem? (i := 27) rfl))) (Or.inr (hw _ (List.mem_of_getElem? (i := 29) rfl))) (by decide) (t := .double) (t' := .double) (by decide) (by decide)))
  have N7 := Fr.snoc X7 N4 g_a1
  have Z7 : n0 ≤ h7.size := Nat.le_trans Z4 (Keep.of_wr W7).1
  have K7 : Keep h0 h7 [a1] := K4.wr W7 (Or.inl (List.mem_of_getElem? (i := 0) rfl))
  refine own_st st7 ?_
  show own_Go p e below K (T7.setTop (mkF m 68 #[.val (.ref a1), .val (.double p1), .second, .val (.double p2), .second] []))
  try clear X4 e4 st7 f5 fw4
  obtain ⟨fs, hr, hrun, hended, hW, hsame⟩ := X7.leave (v := none) (fun _ => rfl)
  refine ⟨_, X7.returnOut hx Bd.returns (hb hby d1_68) hr, fin _ _ _ hrun hended ?_ ⟨⟨_, rfl⟩, hW, hsame.mono (by decide) (by decide)⟩⟩
  show Q1 Z a1 p1 p2 Pz Az h0 n0 _ T7.heap _
  rw [e7]
  exact ⟨rfl, N7, K7, f8, f9, fw7⟩
theorem d6_0 : decode prog_15_method_5_code 0 = .ok (.dload_n 1, 1) := by decide +kernel
theorem d6_1 : decode prog_15_method_5_code 1 = .ok (.aload_n 0, 1) := by decide +kernel
theorem d6_2 : decode prog_15_method_5_code 2 = .ok (.getfield 29, 3) := by decide +kernel
theorem d6_5 : decode prog_15_method_5_code 5 = .ok (.dsub, 1) := by decide +kernel
theorem d6_6 : decode prog_15_method_5_code 6 = .ok (.dconst 1, 1) := by decide +kernel
theorem d6_7 : decode prog_15_method_5_code 7 = .ok (.aload_n 0, 1) := by decide +kernel
theorem d6_8 : decode prog_15_method_5_code 8 = .ok (.getfield 23, 3) := by decide +kernel
theorem d6_11 : decode prog_15_method_5_code 11 = .ok (.ldc2_w 32, 3) := by decide +kernel
theorem d6_14 : decode prog_15_method_5_code 14 = .ok (.dmul, 1) := by decide +kernel
theorem d6_15 : decode prog_15_method_5_code 15 = .ok (.dadd, 1) := by decide +kernel
theorem d6_16 : decode prog_15_method_5_code 16 = .ok (.ddiv, 1) := by decide +kernel
theorem d6_17 : decode prog_15_method_5_code 17 = .ok (.dreturn, 1) := by decide +kernel
theorem pn_6 : plainName "com/example/ms2rank/ms2rank/matching/MassTolerance" = true := by first | (simp [plainName, overriddenIn]; done) | decide +kernel
theorem ef_6 (m : MethodId) (x0 : Addr) (x1 : UInt64) : entryFrame m #[(.ref x0), (.double x1)] 3 = mkF m 0 #[.val (.ref x0), .val (.double x1), .second] [] := by first | (simp [entryFrame, mkF, argsToLocals, Value.category]; done) | rfl
def Q6 (Z : State) (a1 : Addr) (p1 : UInt64) (va : UInt64) (vp : UInt64) (xz : Int64) (h0 : Heap) (n0 : Nat) (v : Option Value) (h : Heap) (L : List Loc) : Prop := ∃ (r : UInt64), v = some (.double r) ∧ (r = FP.ddiv (FP.l2d xz) (FP.dadd FP.dconst1 (FP.dmul vp (4517329193108106637 : UInt64)))) ∧ Fr n0 L ∧ h = h0
set_option maxRecDepth 65536 in
set_option maxHeartbeats 40000000 in
theorem rm6 (l : Launch) (Z : State) (a0 : Array Value) (hw : ∀ d ∈ tables_1, d.before a0 Z = true) (ws : List Jvm.Cond) (a1 : Addr) (p1 : UInt64) (va : UInt64) (vp : UInt64) (xz : Int64) (h0 : Heap) (n0 : Nat) (Z0 : n0 ≤ h0.size) (P0 : Fld Z h0 a1 "com/example/ms2rank/ms2rank/matching/MassTolerance" "absolute" "D" (.double va)) (P1 : Fld Z h0 a1 "com/example/ms2rank/ms2rank/matching/MassTolerance" "ppm" "D" (.double vp)) (hs0 : FP.dsub p1 va = FP.l2d xz) (hs2 : Jvm.Free.Fl.NoNaN64 (FP.dmul vp (4517329193108106637 : UInt64))) (hs3 : Jvm.Free.Fl.NoNaN64 (FP.dadd FP.dconst1 (FP.dmul vp (4517329193108106637 : UInt64)))) (hs4 : Jvm.Free.Fl.NoNaN64 (FP.ddiv (FP.l2d xz) (FP.dadd FP.dconst1 (FP.dmul vp (4517329193108106637 : UInt64))))) :
    MetFree l (⟨"com/example/ms2rank/ms2rank/matching/MassTolerance", "lowestMatch", "(D)D"⟩ : MethodName) (head1 (Jvm.Cond.code (⟨"com/example/ms2rank/ms2rank/matching/MassTolerance", "lowestMatch", "(D)D"⟩ : MethodName) prog_15_method_5_code 3 (some .double) :: ws) ({ frames := 0, cells := 0, slots := 0, locals := 0 } : Room)) (fun a U => a = #[(.ref a1), (.double p1)] ∧ Z.Warmed39 U.vm ∧ U.heap = h0) (fun _ _ _ _ _ => True) (fun _ U o U' => ∃ v L, o = .returned v ∧ Q6 Z a1 p1 va vp xz h0 n0 v U'.heap L ∧ FrameEnd U o U' L ({ frames := 0, cells := 0, slots := 0, locals := 0 } : Room).cells ({ frames := 0, cells := 0, slots := 0, locals := 0 } : Room).slots) := by
  refine MetFree.of_bodySF (plainFor_of_name pn_6) hisR ?_
  intro p e s m args below meth c s₁ Bd hml0 hP hK
  obtain ⟨rfl, hZ, hh⟩ := hP
  have hx := Bd.exec
  have hby := Bd.bytes
  have hml : c.maxLocals = 3 := hml0
  have hown : s.vm.findClass "com/example/ms2rank/ms2rank/matching/MassTolerance" = some m.cls := findClass_of_methodNamed Bd.named
  have hnm := (name_of_methodNamed Bd.named Bd.method).1
  have X0 : Stand p l e ({ frames := 0, cells := 0, slots := 0, locals := 0 } : Room) s m #[(.ref a1), (.double p1)] below meth c s₁ [] 0 0 := Stand.of_body Bd
  have e0 : s₁.heap = h0 := by rw [← hh, Bd.state]; rfl
  have N0 := Fr.nil n0
  suffices G0 : ∀ K : State → Prop, (∀ (n : State) (v : Option Value) (L : List Loc), n.status = .running → Ended n below (.returned v) → Q6 Z a1 p1 va vp xz h0 n0 v n.heap L → FrameEnd s (.returned v) n L ({ frames := 0, cells := 0, slots := 0, locals := 0 } : Room).cells ({ frames := 0, cells := 0, slots := 0, locals := 0 } : Room).slots → K n) → own_Go p e below K (s₁.setTop (mkF m 0 #[.val (.ref a1), .val (.double p1), .second] [])) by
    obtain ⟨t, st, o, a, b, v, L, e1, q, fe⟩ := G0 (fun n => ∃ o, n.status = .running ∧ Ended n below o ∧ ∃ v L, o = .returned v ∧ Q6 Z a1 p1 va vp xz h0 n0 v n.heap L ∧ FrameEnd s o n L ({ frames := 0, cells := 0, slots := 0, locals := 0 } : Room).cells ({ frames := 0, cells := 0, slots := 0, locals := 0 } : Room).slots) (fun n v L a b q f => ⟨_, a, b, v, L, rfl, q, f⟩)
    exact ⟨t, o, castTop (ef_6 m a1 p1) st, a, b, v, L, e1, q, fe⟩
  intro K fin
  show own_Go p e below K (s₁.setTop (mkF m 0 #[.val (.ref a1), .val (.double p1), .second] []))
  refine own_st (fun t k => XS.dloadN X0.here hx rfl (hb hby d6_0) rfl k) ?_
  show own_Go p e below K (s₁.setTop (mkF m 1 #[.val (.ref a1), .val (.double p1), .second] [(.double p1)]))
  refine own_st (fun t k => XS.aloadN X0.here hx rfl (hb hby d6_1) rfl rfl k) ?_
  show own_Go p e below K (s₁.setTop (mkF m 2 #[.val (.ref a1), .val (.double p1), .second] [(.ref a1), (.double p1)]))
  obtain ⟨T1, X1, e1, st1⟩ := getF X0 hx hZ hown (host := "") (Or.inl (hw _ (List.mem_of_getElem? (i := 28) rfl))) Via.refl e0 P0 (g := (mkF m 2 #[.val (.ref a1), .val (.double p1), .second] [(.ref a1), (.double p1)])) rfl rfl (hb hby d6_2)
  refine own_st st1 ?_
  show own_Go p e below K (T1.setTop (mkF m 5 #[.val (.ref a1), .val (.double p1), .second] [(.double va), (.double p1)]))
  try clear st1
  refine own_st (fun t k => XS.dsubS X1.here hx rfl (hb hby d6_5) rfl (nn_w hs0) hs0 k) ?_
  show own_Go p e below K (T1.setTop (mkF m 6 #[.val (.ref a1), .val (.double p1), .second] [(.double (FP.l2d xz))]))
  refine own_st (fun t k => XS.dconst1 X1.here hx rfl (hb hby d6_6) rfl k) ?_
  show own_Go p e below K (T1.setTop (mkF m 7 #[.val (.ref a1), .val (.double p1), .second] [(.double FP.dconst1), (.double (FP.l2d xz))]))
  refine own_st (fun t k => XS.aloadN X1.here hx rfl (hb hby d6_7) rfl rfl k) ?_
  show own_Go p e below K (T1.setTop (mkF m 8 #[.val (.ref a1), .val (.double p1), .second] [(.ref a1), (.double FP.dconst1), (.double (FP.l2d xz))]))
  obtain ⟨T2, X2, e2, st2⟩ := getF X1 hx hZ hown (host := "") (Or.inl (hw _ (List.mem_of_getElem? (i := 26) rfl))) Via.refl e1 P1 (g := (mkF m 8 #[.val (.ref a1), .val (.double p1), .second] [(.ref a1), (.double FP.dconst1), (.double (FP.l2d xz))])) rfl rfl (hb hby d6_8)
  refine own_st st2 ?_
  show own_Go p e below K (T2.setTop (mkF m 11 #[.val (.ref a1), .val (.double p1), .second] [(.double vp), (.double FP.dconst1), (.double (FP.l2d xz))]))
  try clear X1 e1 st2
  refine own_st (X2.ldc2DoubleC hx hown (mvT hZ (hw _ (List.mem_of_getElem? (i := 35) rfl))) (g := (mkF m 11 #[.val (.ref a1), .val (.double p1), .second] [(.double vp), (.double FP.dconst1), (.double (FP.l2d xz))])) rfl (hb hby d6_11)) ?_
  show own_Go p e below K (T2.setTop (mkF m 14 #[.val (.ref a1), .val (.double p1), .second] [(.double (4517329193108106637 : UInt64)), (.double vp), (.double FP.dconst1), (.double (FP.l2d xz))]))
  refine own_st (fun t k => XS.dmulS X2.here hx rfl (hb hby d6_14) rfl hs2 rfl k) ?_
  show own_Go p e below K (T2.setTop (mkF m 15 #[.val (.ref a1), .val (.double p1), .second] [(.double (FP.dmul vp (4517329193108106637 : UInt64))), (.double FP.dconst1), (.double (FP.l2d xz))]))
  refine own_st (fun t k => XS.daddS X2.here hx rfl (hb hby d6_15) rfl hs3 rfl k) ?_
  show own_Go p e below K (T2.setTop (mkF m 16 #[.val (.ref a1), .val (.double p1), .second] [(.double (FP.dadd FP.dconst1 (FP.dmul vp (4517329193108106637 : UInt64)))), (.double (FP.l2d xz))]))
  refine own_st (fun t k => XS.ddivS X2.here hx rfl (hb hby d6_16) rfl hs4 rfl k) ?_
  show own_Go p e below K (T2.setTop (mkF m 17 #[.val (.ref a1), .val (.double p1), .second] [(.double (FP.ddiv (FP.l2d xz) (FP.dadd FP.dconst1 (FP.dmul vp (4517329193108106637 : UInt64)))))]))
  obtain ⟨fs, hr, hrun, hended, hW, hsame⟩ := X2.leave (v := some (.double (FP.ddiv (FP.l2d xz) (FP.dadd FP.dconst1 (FP.dmul vp (4517329193108106637 : UInt64)))))) (fun h => by rw [Bd.returns] at h; cases h)
  refine ⟨_, retOut X2 hx (i := .dreturn) Bd.returns rfl (Or.inr (Or.inr (Or.inl ⟨rfl, rfl, _, rfl⟩))) (hb hby d6_17) hr, fin _ _ _ hrun hended ?_ ⟨⟨_, rfl⟩, hW, hsame.mono (by decide) (by decide)⟩⟩
  show Q6 Z a1 p1 va vp xz h0 n0 _ T2.heap _
  rw [e2]
  exact ⟨_, rfl, rfl, N0, rfl⟩
theorem pn_0 : plainName "com/example/ms2rank/ms2rank/matching/MassToleranceLowestMatchPinLaw" = true := by first | (simp [plainName, overriddenIn]; done) | decide +kernel
theorem pd_0_0 : parseMethodDescriptor "(DD)V" = some ⟨[.double, .double], none⟩ := by decide +kernel
theorem pd_0_3 : parseMethodDescriptor "(D)D" = some ⟨[.double], some .double⟩ := by decide +kernel
theorem ef_0 (m : MethodId) (x0 : Int32) (x1 : Int32) (x2 : Int32) (x3 : Int32) : entryFrame m #[(.int x0), (.int x1), (.int x2), (.int x3)] maxLocals = mkF m 0 #[.val (.int x0), .val (.int x1), .val (.int x2), .val (.int x3), .unset, .unset, .unset, .unset, .unset, .unset, .unset, .unset, .unset, .unset, .unset, .unset, .unset, .unset, .unset, .unset] [] := by first | (simp [entryFrame, mkF, argsToLocals, Value.category, maxLocals]; done) | rfl
def Q0 (Z : State) (q1 : Int32) (q2 : Int32) (q3 : Int32) (q4 : Int32) (h0 : Heap) (n0 : Nat) (v : Option Value) (h : Heap) (L : List Loc) : Prop := v = some (.int 1) ∧ Fr n0 L
set_option maxRecDepth 65536 in
set_option maxHeartbeats 40000000 in
theorem rm0 (l : Launch) (Z : State) (a0 : Array Value) (hw : ∀ d ∈ tables_1, d.before a0 Z = true) (ws : List Jvm.Cond) (q1 : Int32) (q2 : Int32) (q3 : Int32) (q4 : Int32) (h0 : Heap) (n0 : Nat) (Z0 : n0 ≤ h0.size)  :
    MetFree l x (head1 (Jvm.Cond.code x code maxLocals ret :: ws) room_1) (fun a U => a = #[(.int q1), (.int q2), (.int q3), (.int q4)] ∧ Z.Warmed39 U.vm ∧ U.heap = h0) (fun _ _ _ _ _ => True) (fun _ U o U' => ∃ v L, o = .returned v ∧ Q0 Z q1 q2 q3 q4 h0 n0 v U'.heap L ∧ FrameEnd U o U' L 2 4) := by
  refine MetFree.of_bodySF (plainFor_of_name pn_0) hisR ?_
  intro p e s m args below meth c s₁ Bd hml0 hP hK
  obtain ⟨rfl, hZ, hh⟩ := hP
  have hx := Bd.exec
  have hby := Bd.bytes
  have hml : c.maxLocals = 20 := hml0
  have hown : s.vm.findClass "com/example/ms2rank/ms2rank/matching/MassToleranceLowestMatchPinLaw" = some m.cls := findClass_of_methodNamed Bd.named
  have hnm := (name_of_methodNamed Bd.named Bd.method).1
  have X0 : Stand p l e room_1 s m #[(.int q1), (.int q2), (.int q3), (.int q4)] below meth c s₁ [] 0 0 := Stand.of_body Bd
  have e0 : s₁.heap = h0 := by rw [← hh, Bd.state]; rfl
  have N0 := Fr.nil n0
  suffices G0 : ∀ K : State → Prop, (∀ (n : State) (v : Option Value) (L : List Loc), n.status = .running → Ended n below (.returned v) → Q0 Z q1 q2 q3 q4 h0 n0 v n.heap L → FrameEnd s (.returned v) n L 2 4 → K n) → own_Go p e below K (s₁.setTop (mkF m 0 #[.val (.int q1), .val (.int q2), .val (.int q3), .val (.int q4), .unset, .unset, .unset, .unset, .unset, .unset, .unset, .unset, .unset, .unset, .unset, .unset, .unset, .unset, .unset, .unset] [])) by
    obtain ⟨t, st, o, a, b, v, L, e1, q, fe⟩ := G0 (fun n => ∃ o, n.status = .running ∧ Ended n below o ∧ ∃ v L, o = .returned v ∧ Q0 Z q1 q2 q3 q4 h0 n0 v n.heap L ∧ FrameEnd s o n L 2 4) (fun n v L a b q f => ⟨_, a, b, v, L, rfl, q, f⟩)
    exact ⟨t, o, castTop (ef_0 m q1 q2 q3 q4) st, a, b, v, L, e1, q, fe⟩
  intro K fin
  show own_Go p e below K (s₁.setTop (mkF m 0 #[.val (.int q1), .val (.int q2), .val (.int q3), .val (.int q4), .unset, .unset, .unset, .unset, .unset, .unset, .unset, .unset, .unset, .unset, .unset, .unset, .unset, .unset, .unset, .unset] []))
  refine own_st (fun t k => XS.iloadN X0.here hx rfl (hb hby at_0) rfl k) ?_
  show own_Go p e below K (s₁.setTop (mkF m 1 #[.val (.int q1), .val (.int q2), .val (.int q3), .val (.int q4), .unset, .unset, .unset, .unset, .unset, .unset, .unset, .unset, .unset, .unset, .unset, .unset, .unset, .unset, .unset, .unset] [(.int q2)]))
  refine own_st (X0.ldcInt hx hown (mvT hZ (hw _ (List.mem_of_getElem? (i := 0) rfl))) (g := (mkF m 1 #[.val (.int q1), .val (.int q2), .val (.int q3), .val (.int q4), .unset, .unset, .unset, .unset, .unset, .unset, .unset, .unset, .unset, .unset, .unset, .unset, .unset, .unset, .unset, .unset] [(.int q2)])) rfl (hb hby at_1)) ?_
  show own_Go p e below K (s₁.setTop (mkF m 3 #[.val (.int q1), .val (.int q2), .val (.int q3), .val (.int q4), .unset, .unset, .unset, .unset, .unset, .unset, .unset, .unset, .unset, .unset, .unset, .unset, .unset, .unset, .unset, .unset] [(.int (2147483647 : Int32)), (.int q2)]))
  refine own_st (fun t k => XS.iand X0.here hx rfl (hb hby at_3) rfl k) ?_
  show own_Go p e below K (s₁.setTop (mkF m 4 #[.val (.int q1), .val (.int q2), .val (.int q3), .val (.int q4), .unset, .unset, .unset, .unset, .unset, .unset, .unset, .unset, .unset, .unset, .unset, .unset, .unset, .unset, .unset, .unset] [(.int (q2 &&& (2147483647 : Int32)))]))
  generalize haa : (q2 &&& (2147483647 : Int32)) = aa
  show own_Go p e below K (s₁.setTop (mkF m 4 #[.val (.int q1), .val (.int q2), .val (.int q3), .val (.int q4), .unset, .unset, .unset, .unset, .unset, .unset, .unset, .unset, .unset, .unset, .unset, .unset, .unset, .unset, .unset, .unset] [(.int aa)]))
  have haa := own_a haa
  refine own_st (fun t k => XS.istore X0.here hx rfl (hb hby at_4) rfl (l' := #[.val (.int q1), .val (.int q2), .val (.int q3), .val (.int q4), .val (.int aa), .unset, .unset, .unset, .unset, .unset, .unset, .unset, .unset, .unset, .unset, .unset, .unset, .unset, .unset, .unset]) rfl k) ?_
  show own_Go p e below K (s₁.setTop (mkF m 6 #[.val (.int q1), .val (.int q2), .val (.int q3), .val (.int q4), .val (.int aa), .unset, .unset, .unset, .unset, .unset, .unset, .unset, .unset, .unset, .unset, .unset, .unset, .unset, .unset, .unset] []))
  refine own_st (fun t k => XS.iloadN X0.here hx rfl (hb hby at_6) rfl k) ?_
  show own_Go p e below K (s₁.setTop (mkF m 7 #[.val (.int q1), .val (.int q2), .val (.int q3), .val (.int q4), .val (.int aa), .unset, .unset, .unset, .unset, .unset, .unset, .unset, .unset, .unset, .unset, .unset, .unset, .unset, .unset, .unset] [(.int q3)]))
  refine own_st (fun t k => XS.iconst X0.here hx rfl (hb hby at_7) k) ?_
  show own_Go p e below K (s₁.setTop (mkF m 8 #[.val (.int q1), .val (.int q2), .val (.int q3), .val (.int q4), .val (.int aa), .unset, .unset, .unset, .unset, .unset, .unset, .unset, .unset, .unset, .unset, .unset, .unset, .unset, .unset, .unset] [(.int (3 : Int32)), (.int q3)]))
  refine own_st (fun t k => XS.iand X0.here hx rfl (hb hby at_8) rfl k) ?_
  show own_Go p e below K (s₁.setTop (mkF m 9 #[.val (.int q1), .val (.int q2), .val (.int q3), .val (.int q4), .val (.int aa), .unset, .unset, .unset, .unset, .unset, .unset, .unset, .unset, .unset, .unset, .unset, .unset, .unset, .unset, .unset] [(.int (q3 &&& (3 : Int32)))]))
  generalize hkk : (q3 &&& (3 : Int32)) = kk
  show own_Go p e below K (s₁.setTop (mkF m 9 #[.val (.int q1), .val (.int q2), .val (.int q3), .val (.int q4), .val (.int aa), .unset, .unset, .unset, .unset, .unset, .unset, .unset, .unset, .unset, .unset, .unset, .unset, .unset, .unset, .unset] [(.int kk)]))
  refine own_st (fun t k => XS.istore X0.here hx rfl (hb hby at_9) rfl (l' := #[.val (.int q1), .val (.int q2), .val (.int q3), .val (.int q4), .val (.int aa), .val (.int kk), .unset, .unset, .unset, .unset, .unset, .unset, .unset, .unset, .unset, .unset, .unset, .unset, .unset, .unset]) rfl k) ?_
  show own_Go p e below K (s₁.setTop (mkF m 11 #[.val (.int q1), .val (.int q2), .val (.int q3), .val (.int q4), .val (.int aa), .val (.int kk), .unset, .unset, .unset, .unset, .unset, .unset, .unset, .unset, .unset, .unset, .unset, .unset, .unset, .unset] []))
  refine own_st (fun t k => XS.iload X0.here hx rfl (hb hby at_11) rfl k) ?_
  show own_Go p e below K (s₁.setTop (mkF m 13 #[.val (.int q1), .val (.int q2), .val (.int q3), .val (.int q4), .val (.int aa), .val (.int kk), .unset, .unset, .unset, .unset, .unset, .unset, .unset, .unset, .unset, .unset, .unset, .unset, .unset, .unset] [(.int kk)]))
  by_cases hc13 : kk = (0 : Int32)
  · refine own_st (fun t k => XS.ifNo X0.here hx rfl (hb hby at_13) rfl ((if0 _ _).trans (teq hc13).2) k) ?_
    show own_Go p e below K (s₁.setTop (mkF m 16 #[.val (.int q1), .val (.int q2), .val (.int q3), .val (.int q4), .val (.int aa), .val (.int kk), .unset, .unset, .unset, .unset, .unset, .unset, .unset, .unset, .unset, .unset, .unset, .unset, .unset, .unset] []))
    refine own_st (fun t k => XS.dconst0 X0.here hx rfl (hb hby at_16) rfl k) ?_
    show own_Go p e below K (s₁.setTop (mkF m 17 #[.val (.int q1), .val (.int q2), .val (.int q3), .val (.int q4), .val (.int aa), .val (.int kk), .unset, .unset, .unset, .unset, .unset, .unset, .unset, .unset, .unset, .unset, .unset, .unset, .unset, .unset] [(.double FP.dconst0)]))
    refine own_st (fun t k => XS.dstore X0.here hx rfl (hb hby at_17) rfl (l' := #[.val (.int q1), .val (.int q2), .val (.int q3), .val (.int q4), .val (.int aa), .val (.int kk), .val (.double FP.dconst0), .second, .unset, .unset, .unset, .unset, .unset, .unset, .unset, .unset, .unset, .unset, .unset, .unset]) rfl k) ?_
    show own_Go p e below K (s₁.setTop (mkF m 19 #[.val (.int q1), .val (.int q2), .val (.int q3), .val (.int q4), .val (.int aa), .val (.int kk), .val (.double FP.dconst0), .second, .unset, .unset, .unset, .unset, .unset, .unset, .unset, .unset, .unset, .unset, .unset, .unset] []))
    refine own_st (fun t k => XS.dconst1 X0.here hx rfl (hb hby at_19) rfl k) ?_
    show own_Go p e below K (s₁.setTop (mkF m 20 #[.val (.int q1), .val (.int q2), .val (.int q3), .val (.int q4), .val (.int aa), .val (.int kk), .val (.double FP.dconst0), .second, .unset, .unset, .unset, .unset, .unset, .unset, .unset, .unset, .unset, .unset, .unset, .unset] [(.double FP.dconst1)]))
    refine own_st (fun t k => XS.dstore X0.here hx rfl (hb hby at_20) rfl (l' := #[.val (.int q1), .val (.int q2), .val (.int q3), .val (.int q4), .val (.int aa), .val (.int kk), .val (.double FP.dconst0), .second, .val (.double FP.dconst1), .second, .unset, .unset, .unset, .unset, .unset, .unset, .unset, .unset, .unset, .unset]) rfl k) ?_
    show own_Go p e below K (s₁.setTop (mkF m 22 #[.val (.int q1), .val (.int q2), .val (.int q3), .val (.int q4), .val (.int aa), .val (.int kk), .val (.double FP.dconst0), .second, .val (.double FP.dconst1), .second, .unset, .unset, .unset, .unset, .unset, .unset, .unset, .unset, .unset, .unset] []))
    refine own_st (fun t k => XS.goto X0.here hx rfl (pc0 := 22) (pc' := 73) rfl (hb hby at_22) (by decide) (by decide) k) ?_
    show own_Go p e below K (s₁.setTop (mkF m 73 #[.val (.int q1), .val (.int q2), .val (.int q3), .val (.int q4), .val (.int aa), .val (.int kk), .val (.double FP.dconst0), .second, .val (.double FP.dconst1), .second, .unset, .unset, .unset, .unset, .unset, .unset, .unset, .unset, .unset, .unset] []))
    obtain ⟨T1, h1, X1, e1, E1, A1, D1, -, st1⟩ := newO X0 hx hZ hown (hw _ (List.mem_of_getElem? (i := 3) rfl)) (hw _ (List.mem_of_getElem? (i := 4) rfl)) (hw _ (List.mem_of_getElem? (i := 5) rfl)) e0 (g := (mkF m 73 #[.val (.int q1), .val (.int q2), .val (.int q3), .val (.int q4), .val (.int aa), .val (.int kk), .val (.double FP.dconst0), .second, .val (.double FP.dconst1), .second, .unset, .unset, .unset, .unset, .unset, .unset, .unset, .unset, .unset, .unset] [])) rfl (hb hby at_73) (by decide) (by decide)
    obtain ⟨b1, g1⟩ : ∃ z, z = h0.size := ⟨_, rfl⟩
    rw [← g1] at A1 D1 st1
    have g_b1 : n0 ≤ b1 := Nat.le_trans Z0 (Nat.le_of_eq g1.symm)
    have f2 : Fld Z h1 b1 "com/example/ms2rank/ms2rank/matching/MassTolerance" "ppm" "D" (defaultValue .double) := D1 (Or.inr (hw _ (List.mem_of_getElem? (i := 27) rfl))) (ty := .double) (by decide)
    have f3 : Fld Z h1 b1 "com/example/ms2rank/ms2rank/matching/MassTolerance" "absolute" "D" (defaultValue .double) := D1 (Or.inr (hw _ (List.mem_of_getElem? (i := 29) rfl))) (ty := .double) (by decide)
    have Z1 : n0 ≤ h1.size := Nat.le_trans Z0 E1.1
    refine own_st st1 ?_
    show own_Go p e below K (T1.setTop (mkF m 76 #[.val (.int q1), .val (.int q2), .val (.int q3), .val (.int q4), .val (.int aa), .val (.int kk), .val (.double FP.dconst0), .second, .val (.double FP.dconst1), .second, .unset, .unset, .unset, .unset, .unset, .unset, .unset, .unset, .unset, .unset] [(.ref b1)]))
    try clear st1
    refine own_st (fun t k => XS.dup X1.here hx rfl (hb hby at_76) rfl rfl k) ?_
    show own_Go p e below K (T1.setTop (mkF m 77 #[.val (.int q1), .val (.int q2), .val (.int q3), .val (.int q4), .val (.int aa), .val (.int kk), .val (.double FP.dconst0), .second, .val (.double FP.dconst1), .second, .unset, .unset, .unset, .unset, .unset, .unset, .unset, .unset, .unset, .unset] [(.ref b1), (.ref b1)]))
    refine own_st (fun t k => XS.dload X1.here hx rfl (hb hby at_77) rfl k) ?_
    show own_Go p e below K (T1.setTop (mkF m 79 #[.val (.int q1), .val (.int q2), .val (.int q3), .val (.int q4), .val (.int aa), .val (.int kk), .val (.double FP.dconst0), .second, .val (.double FP.dconst1), .second, .unset, .unset, .unset, .unset, .unset, .unset, .unset, .unset, .unset, .unset] [(.double FP.dconst0), (.ref b1), (.ref b1)]))
    refine own_st (fun t k => XS.iload X1.here hx rfl (hb hby at_79) rfl k) ?_
    show own_Go p e below K (T1.setTop (mkF m 81 #[.val (.int q1), .val (.int q2), .val (.int q3), .val (.int q4), .val (.int aa), .val (.int kk), .val (.double FP.dconst0), .second, .val (.double FP.dconst1), .second, .unset, .unset, .unset, .unset, .unset, .unset, .unset, .unset, .unset, .unset] [(.int aa), (.double FP.dconst0), (.ref b1), (.ref b1)]))
    refine own_st (fun t k => XS.i2dS X1.here hx rfl (hb hby at_81) rfl (i2d_w aa) k) ?_
    show own_Go p e below K (T1.setTop (mkF m 82 #[.val (.int q1), .val (.int q2), .val (.int q3), .val (.int q4), .val (.int aa), .val (.int kk), .val (.double FP.dconst0), .second, .val (.double FP.dconst1), .second, .unset, .unset, .unset, .unset, .unset, .unset, .unset, .unset, .unset, .unset] [(.double (FP.l2d (aa).toInt64)), (.double FP.dconst0), (.ref b1), (.ref b1)]))
    obtain ⟨_, _, ⟨T4, L4, k4, n4⟩, -, X4, ⟨Lc4, hQ4, l4, y4, z4⟩, st4⟩ := X1.specialBack hx (y := (⟨"com/example/ms2rank/ms2rank/matching/MassTolerance", "<init>", "(DD)V"⟩ : MethodName)) rfl hown (mvT hZ (hw _ (List.mem_of_getElem? (i := 6) rfl))) (mvT hZ (hw _ (List.mem_of_getElem? (i := 7) rfl))) (mvT hZ (hw _ (List.mem_of_getElem? (i := 8) rfl))) (by decide) (backOf (W := 1) (rm1 l Z a0 hw [] b1 FP.dconst0 (FP.l2d (aa).toInt64) (0) ((aa).toInt64) h1 n0 Z1 g_b1 A1 f2 f3 own_z0 rfl ⟨by decide, by decide⟩ haa) hZ (hw _ (List.mem_of_getElem? (i := 8) rfl)) (hw _ (List.mem_of_getElem? (i := 5) rfl)) (by decide) (by decide)) (g := (mkF m 82 #[.val (.int q1), .val (.int q2), .val (.int q3), .val (.int q4), .val (.int aa), .val (.int kk), .val (.double FP.dconst0), .second, .val (.double FP.dconst1), .second, .unset, .unset, .unset, .unset, .unset, .unset, .unset, .unset, .unset, .unset] [(.double (FP.l2d (aa).toInt64)), (.double FP.dconst0), (.ref b1), (.ref b1)])) rfl (by rw [hml]; rfl) (Steps.refl _) (a := b1) (argsL := [(.double FP.dconst0), (.double (FP.l2d (aa).toInt64))]) (rest := [(.ref b1)]) (lenOf pd_0_0 rfl) rfl (by show 2 * 0 + _ ≤ _; exact Nat.le_of_eq rfl) (hb hby at_82) (fun _ _ => ⟨rfl, e1, (by decide : 1 + 0 ≤ _), (by decide : 2 + 0 ≤ _)⟩)
    dsimp only [Pt.U, Pt.locs, Pt.cells, Pt.slots] at X4 l4 y4 z4 st4 hQ4
    obtain ⟨rfl, N4q, Kq4, p4_0, p4_1, p4_2⟩ := hQ4
    have N4 : Fr n0 L4 := by rw [l4]; exact Fr.app N0 N4q
    clear l4
    have y4' : k4 = 1 := y4
    have z4' : n4 = 2 := z4
    clear y4 z4
    subst y4' z4'
    have Z4 : n0 ≤ T4.heap.size := Nat.le_trans Z1 Kq4.1
    refine own_tr st4 ?_
    show own_Go p e below K (T4.setTop (mkF m 85 #[.val (.int q1), .val (.int q2), .val (.int q3), .val (.int q4), .val (.int aa), .val (.int kk), .val (.double FP.dconst0), .second, .val (.double FP.dconst1), .second, .unset, .unset, .unset, .unset, .unset, .unset, .unset, .unset, .unset, .unset] [(.ref b1)]))
    try clear X1 e1 st4 N4q
    refine own_st (fun t k => XS.astore X4.here hx rfl (hb hby at_85) rfl rfl (l' := #[.val (.int q1), .val (.int q2), .val (.int q3), .val (.int q4), .val (.int aa), .val (.int kk), .val (.double FP.dconst0), .second, .val (.double FP.dconst1), .second, .val (.ref b1), .unset, .unset, .unset, .unset, .unset, .unset, .unset, .unset, .unset]) rfl k) ?_
    show own_Go p e below K (T4.setTop (mkF m 87 #[.val (.int q1), .val (.int q2), .val (.int q3), .val (.int q4), .val (.int aa), .val (.int kk), .val (.double FP.dconst0), .second, .val (.double FP.dconst1), .second, .val (.ref b1), .unset, .unset, .unset, .unset, .unset, .unset, .unset, .unset, .unset] []))
    refine own_st (fun t k => XS.iloadN X4.here hx rfl (hb hby at_87) rfl k) ?_
    show own_Go p e below K (T4.setTop (mkF m 88 #[.val (.int q1), .val (.int q2), .val (.int q3), .val (.int q4), .val (.int aa), .val (.int kk), .val (.double FP.dconst0), .second, .val (.double FP.dconst1), .second, .val (.ref b1), .unset, .unset, .unset, .unset, .unset, .unset, .unset, .unset, .unset] [(.int q1)]))
    refine own_st (fun t k => XS.i2l X4.here hx rfl (hb hby at_88) rfl k) ?_
    show own_Go p e below K (T4.setTop (mkF m 89 #[.val (.int q1), .val (.int q2), .val (.int q3), .val (.int q4), .val (.int aa), .val (.int kk), .val (.double FP.dconst0), .second, .val (.double FP.dconst1), .second, .val (.ref b1), .unset, .unset, .unset, .unset, .unset, .unset, .unset, .unset, .unset] [(.long (q1.toInt64))]))
    refine own_st (fun t k => XS.iload X4.here hx rfl (hb hby at_89) rfl k) ?_
    show own_Go p e below K (T4.setTop (mkF m 91 #[.val (.int q1), .val (.int q2), .val (.int q3), .val (.int q4), .val (.int aa), .val (.int kk), .val (.double FP.dconst0), .second, .val (.double FP.dconst1), .second, .val (.ref b1), .unset, .unset, .unset, .unset, .unset, .unset, .unset, .unset, .unset] [(.int aa), (.long (q1.toInt64))]))
    refine own_st (fun t k => XS.i2l X4.here hx rfl (hb hby at_91) rfl k) ?_
    show own_Go p e below K (T4.setTop (mkF m 92 #[.val (.int q1), .val (.int q2), .val (.int q3), .val (.int q4), .val (.int aa), .val (.int kk), .val (.double FP.dconst0), .second, .val (.double FP.dconst1), .second, .val (.ref b1), .unset, .unset, .unset, .unset, .unset, .unset, .unset, .unset, .unset] [(.long (aa.toInt64)), (.long (q1.toInt64))]))
    refine own_st (fun t k => XS.lsub X4.here hx rfl (hb hby at_92) rfl k) ?_
    show own_Go p e below K (T4.setTop (mkF m 93 #[.val (.int q1), .val (.int q2), .val (.int q3), .val (.int q4), .val (.int aa), .val (.int kk), .val (.double FP.dconst0), .second, .val (.double FP.dconst1), .second, .val (.ref b1), .unset, .unset, .unset, .unset, .unset, .unset, .unset, .unset, .unset] [(.long ((q1.toInt64) - (aa.toInt64)))]))
    generalize hxx : ((q1.toInt64) - (aa.toInt64)) = xx
    show own_Go p e below K (T4.setTop (mkF m 93 #[.val (.int q1), .val (.int q2), .val (.int q3), .val (.int q4), .val (.int aa), .val (.int kk), .val (.double FP.dconst0), .second, .val (.double FP.dconst1), .second, .val (.ref b1), .unset, .unset, .unset, .unset, .unset, .unset, .unset, .unset, .unset] [(.long xx)]))
    have hxb := own_xb hxx haa
    refine own_st (fun t k => XS.l2dS X4.here hx rfl (hb hby at_93) rfl rfl k) ?_
    show own_Go p e below K (T4.setTop (mkF m 94 #[.val (.int q1), .val (.int q2), .val (.int q3), .val (.int q4), .val (.int aa), .val (.int kk), .val (.double FP.dconst0), .second, .val (.double FP.dconst1), .second, .val (.ref b1), .unset, .unset, .unset, .unset, .unset, .unset, .unset, .unset, .unset] [(.double (FP.l2d xx))]))
    refine own_st (fun t k => XS.dstore X4.here hx rfl (hb hby at_94) rfl (l' := #[.val (.int q1), .val (.int q2), .val (.int q3), .val (.int q4), .val (.int aa), .val (.int kk), .val (.double FP.dconst0), .second, .val (.double FP.dconst1), .second, .val (.ref b1), .val (.double (FP.l2d xx)), .second, .unset, .unset, .unset, .unset, .unset, .unset, .unset]) rfl k) ?_
    show own_Go p e below K (T4.setTop (mkF m 96 #[.val (.int q1), .val (.int q2), .val (.int q3), .val (.int q4), .val (.int aa), .val (.int kk), .val (.double FP.dconst0), .second, .val (.double FP.dconst1), .second, .val (.ref b1), .val (.double (FP.l2d xx)), .second, .unset, .unset, .unset, .unset, .unset, .unset, .unset] []))
    refine own_st (fun t k => XS.dload X4.here hx rfl (hb hby at_96) rfl k) ?_
    show own_Go p e below K (T4.setTop (mkF m 98 #[.val (.int q1), .val (.int q2), .val (.int q3), .val (.int q4), .val (.int aa), .val (.int kk), .val (.double FP.dconst0), .second, .val (.double FP.dconst1), .second, .val (.ref b1), .val (.double (FP.l2d xx)), .second, .unset, .unset, .unset, .unset, .unset, .unset, .unset] [(.double (FP.l2d xx))]))
    refine own_st (fun t k => XS.dload X4.here hx rfl (hb hby at_98) rfl k) ?_
    show own_Go p e below K (T4.setTop (mkF m 100 #[.val (.int q1), .val (.int q2), .val (.int q3), .val (.int q4), .val (.int aa), .val (.int kk), .val (.double FP.dconst0), .second, .val (.double FP.dconst1), .second, .val (.ref b1), .val (.double (FP.l2d xx)), .second, .unset, .unset, .unset, .unset, .unset, .unset, .unset] [(.double FP.dconst1), (.double (FP.l2d xx))]))
    refine own_st (fun t k => XS.dmulS X4.here hx rfl (hb hby at_100) rfl (own_sc own_s1) rfl k) ?_
    show own_Go p e below K (T4.setTop (mkF m 101 #[.val (.int q1), .val (.int q2), .val (.int q3), .val (.int q4), .val (.int aa), .val (.int kk), .val (.double FP.dconst0), .second, .val (.double FP.dconst1), .second, .val (.ref b1), .val (.double (FP.l2d xx)), .second, .unset, .unset, .unset, .unset, .unset, .unset, .unset] [(.double (FP.dmul (FP.l2d xx) FP.dconst1))]))
    refine own_st (fun t k => XS.dstore X4.here hx rfl (hb hby at_101) rfl (l' := #[.val (.int q1), .val (.int q2), .val (.int q3), .val (.int q4), .val (.int aa), .val (.int kk), .val (.double FP.dconst0), .second, .val (.double FP.dconst1), .second, .val (.ref b1), .val (.double (FP.l2d xx)), .second, .val (.double (FP.dmul (FP.l2d xx) FP.dconst1)), .second, .unset, .unset, .unset, .unset, .unset]) rfl k) ?_
    show own_Go p e below K (T4.setTop (mkF m 103 #[.val (.int q1), .val (.int q2), .val (.int q3), .val (.int q4), .val (.int aa), .val (.int kk), .val (.double FP.dconst0), .second, .val (.double FP.dconst1), .second, .val (.ref b1), .val (.double (FP.l2d xx)), .second, .val (.double (FP.dmul (FP.l2d xx) FP.dconst1)), .second, .unset, .unset, .unset, .unset, .unset] []))
    refine own_st (fun t k => XS.aload X4.here hx rfl (hb hby at_103) rfl rfl k) ?_
    show own_Go p e below K (T4.setTop (mkF m 105 #[.val (.int q1), .val (.int q2), .val (.int q3), .val (.int q4), .val (.int aa), .val (.int kk), .val (.double FP.dconst0), .second, .val (.double FP.dconst1), .second, .val (.ref b1), .val (.double (FP.l2d xx)), .second, .val (.double (FP.dmul (FP.l2d xx) FP.dconst1)), .second, .unset, .unset, .unset, .unset, .unset] [(.ref b1)]))
    refine own_st (fun t k => XS.iloadN X4.here hx rfl (hb hby at_105) rfl k) ?_
    show own_Go p e below K (T4.setTop (mkF m 106 #[.val (.int q1), .val (.int q2), .val (.int q3), .val (.int q4), .val (.int aa), .val (.int kk), .val (.double FP.dconst0), .second, .val (.double FP.dconst1), .second, .val (.ref b1), .val (.double (FP.l2d xx)), .second, .val (.double (FP.dmul (FP.l2d xx) FP.dconst1)), .second, .unset, .unset, .unset, .unset, .unset] [(.int q1), (.ref b1)]))
    refine own_st (fun t k => XS.i2dS X4.here hx rfl (hb hby at_106) rfl (i2d_w q1) k) ?_
    show own_Go p e below K (T4.setTop (mkF m 107 #[.val (.int q1), .val (.int q2), .val (.int q3), .val (.int q4), .val (.int aa), .val (.int kk), .val (.double FP.dconst0), .second, .val (.double FP.dconst1), .second, .val (.ref b1), .val (.double (FP.l2d xx)), .second, .val (.double (FP.dmul (FP.l2d xx) FP.dconst1)), .second, .unset, .unset, .unset, .unset, .unset] [(.double (FP.l2d (q1).toInt64)), (.ref b1)]))
    obtain ⟨cq5, kq5, qv5a, qv5b, qv5c⟩ := isOf hZ rfl p4_0
    obtain ⟨_, _, ⟨T5, L5, k5, n5⟩, -, X5, ⟨Lc5, hQ5, l5, y5, z5⟩, st5⟩ := X4.virtualBack hx (y := (⟨"com/example/ms2rank/ms2rank/matching/MassTolerance", "lowestMatch", "(D)D"⟩ : MethodName)) (z := (⟨"com/example/ms2rank/ms2rank/matching/MassTolerance", "lowestMatch", "(D)D"⟩ : MethodName)) hown (mvT hZ (hw _ (List.mem_of_getElem? (i := 30) rfl))) (mvT hZ (hw _ (List.mem_of_getElem? (i := 31) rfl))) (notFace_of_selects (args := #[]) (mvT hZ (hw _ (List.mem_of_getElem? (i := 33) rfl)))) (mvT hZ (hw _ (List.mem_of_getElem? (i := 33) rfl))) (mvT hZ (hw _ (List.mem_of_getElem? (i := 32) rfl))) (by decide) (backOf (W := 0) (rm6 l Z a0 hw [] b1 (FP.l2d (q1).toInt64) ((FP.l2d (aa).toInt64)) (FP.dconst0) (xx) T4.heap n0 Z4 p4_2 p4_1 (own_ds hxx) (own_m2 own_z0 ⟨by decide, by decide⟩) (own_m3 own_z0 ⟨by decide, by decide⟩) (own_m4 xx own_z0 ⟨by decide, by decide⟩)) hZ (hw _ (List.mem_of_getElem? (i := 34) rfl)) (hw _ (List.mem_of_getElem? (i := 5) rfl)) (by decide) (by decide)) qv5a qv5c (g := (mkF m 107 #[.val (.int q1), .val (.int q2), .val (.int q3), .val (.int q4), .val (.int aa), .val (.int kk), .val (.double FP.dconst0), .second, .val (.double FP.dconst1), .second, .val (.ref b1), .val (.double (FP.l2d xx)), .second, .val (.double (FP.dmul (FP.l2d xx) FP.dconst1)), .second, .unset, .unset, .unset, .unset, .unset] [(.double (FP.l2d (q1).toInt64)), (.ref b1)])) rfl (by rw [hml]; rfl) (Steps.refl _) (argsL := [(.double (FP.l2d (q1).toInt64))]) (rest := []) (lenOf pd_0_3 rfl) rfl (by show 2 * 0 + _ ≤ _; exact Nat.le_of_eq rfl) (hb hby at_107) (fun _ _ => ⟨rfl, rfl, (by decide : 1 + 0 ≤ _), (by decide : 2 + 0 ≤ _)⟩)
    dsimp only [Pt.U, Pt.locs, Pt.cells, Pt.slots] at X5 l5 y5 z5 st5 hQ5
    obtain ⟨r5, rfl, hr5, N5q, e5⟩ := hQ5
    have N5 : Fr n0 L5 := by rw [l5]; exact Fr.app N4 N5q
    clear l5
    have y5' : k5 = 1 := y5
    have z5' : n5 = 2 := z5
    clear y5 z5
    subst y5' z5'
    refine own_tr st5 ?_
    show own_Go p e below K (T5.setTop (mkF m 110 #[.val (.int q1), .val (.int q2), .val (.int q3), .val (.int q4), .val (.int aa), .val (.int kk), .val (.double FP.dconst0), .second, .val (.double FP.dconst1), .second, .val (.ref b1), .val (.double (FP.l2d xx)), .second, .val (.double (FP.dmul (FP.l2d xx) FP.dconst1)), .second, .unset, .unset, .unset, .unset, .unset] [(.double r5)]))
    try clear X4 st5 N4 N5q
    refine own_st (fun t k => XS.dload X5.here hx rfl (hb hby at_110) rfl k) ?_
    show own_Go p e below K (T5.setTop (mkF m 112 #[.val (.int q1), .val (.int q2), .val (.int q3), .val (.int q4), .val (.int aa), .val (.int kk), .val (.double FP.dconst0), .second, .val (.double FP.dconst1), .second, .val (.ref b1), .val (.double (FP.l2d xx)), .second, .val (.double (FP.dmul (FP.l2d xx) FP.dconst1)), .second, .unset, .unset, .unset, .unset, .unset] [(.double (FP.dmul (FP.l2d xx) FP.dconst1)), (.double r5)]))
    refine own_st (fun t k => XS.dcmpS X5.here hx rfl (hb hby at_112) rfl (dcmpV_eq (own_ex0 hr5) (own_ex0 hr5 ▸ own_sc own_s1) .l) k) ?_
    show own_Go p e below K (T5.setTop (mkF m 113 #[.val (.int q1), .val (.int q2), .val (.int q3), .val (.int q4), .val (.int aa), .val (.int kk), .val (.double FP.dconst0), .second, .val (.double FP.dconst1), .second, .val (.ref b1), .val (.double (FP.l2d xx)), .second, .val (.double (FP.dmul (FP.l2d xx) FP.dconst1)), .second, .unset, .unset, .unset, .unset, .unset] [(.int (0 : Int32))]))
    refine own_st (fun t k => XS.ifNo X5.here hx rfl (hb hby at_113) rfl ((if0 _ _).trans (teq (by decide : (0 : Int32) = (0 : Int32))).2) k) ?_
    show own_Go p e below K (T5.setTop (mkF m 116 #[.val (.int q1), .val (.int q2), .val (.int q3), .val (.int q4), .val (.int aa), .val (.int kk), .val (.double FP.dconst0), .second, .val (.double FP.dconst1), .second, .val (.ref b1), .val (.double (FP.l2d xx)), .second, .val (.double (FP.dmul (FP.l2d xx) FP.dconst1)), .second, .unset, .unset, .unset, .unset, .unset] []))
    refine own_st (fun t k => XS.iconst X5.here hx rfl (hb hby at_116) k) ?_
    show own_Go p e below K (T5.setTop (mkF m 117 #[.val (.int q1), .val (.int q2), .val (.int q3), .val (.int q4), .val (.int aa), .val (.int kk), .val (.double FP.dconst0), .second, .val (.double FP.dconst1), .second, .val (.ref b1), .val (.double (FP.l2d xx)), .second, .val (.double (FP.dmul (FP.l2d xx) FP.dconst1)), .second, .unset, .unset, .unset, .unset, .unset] [(.int (1 : Int32))]))
    refine own_st (fun t k => XS.goto X5.here hx rfl (pc0 := 117) (pc' := 121) rfl (hb hby at_117) (by decide) (by decide) k) ?_
    show own_Go p e below K (T5.setTop (mkF m 121 #[.val (.int q1), .val (.int q2), .val (.int q3), .val (.int q4), .val (.int aa), .val (.int kk), .val (.double FP.dconst0), .second, .val (.double FP.dconst1), .second, .val (.ref b1), .val (.double (FP.l2d xx)), .second, .val (.double (FP.dmul (FP.l2d xx) FP.dconst1)), .second, .unset, .unset, .unset, .unset, .unset] [(.int (1 : Int32))]))
    refine own_st (fun t k => XS.istore X5.here hx rfl (hb hby at_121) rfl (l' := #[.val (.int q1), .val (.int q2), .val (.int q3), .val (.int q4), .val (.int aa), .val (.int kk), .val (.double FP.dconst0), .second, .val (.double FP.dconst1), .second, .val (.ref b1), .val (.double (FP.l2d xx)), .second, .val (.double (FP.dmul (FP.l2d xx) FP.dconst1)), .second, .val (.int (1 : Int32)), .unset, .unset, .unset, .unset]) rfl k) ?_
    show own_Go p e below K (T5.setTop (mkF m 123 #[.val (.int q1), .val (.int q2), .val (.int q3), .val (.int q4), .val (.int aa), .val (.int kk), .val (.double FP.dconst0), .second, .val (.double FP.dconst1), .second, .val (.ref b1), .val (.double (FP.l2d xx)), .second, .val (.double (FP.dmul (FP.l2d xx) FP.dconst1)), .second, .val (.int (1 : Int32)), .unset, .unset, .unset, .unset] []))
    obtain ⟨T6, h6, X6, e6, E6, A6, D6, -, st6⟩ := newO X5 hx hZ hown (hw _ (List.mem_of_getElem? (i := 3) rfl)) (hw _ (List.mem_of_getElem? (i := 4) rfl)) (hw _ (List.mem_of_getElem? (i := 5) rfl)) e5 (g := (mkF m 123 #[.val (.int q1), .val (.int q2), .val (.int q3), .val (.int q4), .val (.int aa), .val (.int kk), .val (.double FP.dconst0), .second, .val (.double FP.dconst1), .second, .val (.ref b1), .val (.double (FP.l2d xx)), .second, .val (.double (FP.dmul (FP.l2d xx) FP.dconst1)), .second, .val (.int (1 : Int32)), .unset, .unset, .unset, .unset] [])) rfl (hb hby at_123) (by decide) (by decide)
    obtain ⟨b6, g6⟩ : ∃ z, z = T4.heap.size := ⟨_, rfl⟩
    rw [← g6] at A6 D6 st6
    have ne_b1_b6 : b1 ≠ b6 := Nat.ne_of_lt (Nat.lt_of_lt_of_le p4_0.lt (Nat.le_of_eq g6.symm))
    have g_b6 : n0 ≤ b6 := Nat.le_trans Z4 (Nat.le_of_eq g6.symm)
    have f7 : Exa Z h6 b1 "com/example/ms2rank/ms2rank/matching/MassTolerance" := p4_0.ext E6
    have f8 : Fld Z h6 b1 "com/example/ms2rank/ms2rank/matching/MassTolerance" "ppm" "D" (.double FP.dconst0) := p4_1.ext E6
    have f9 : Fld Z h6 b1 "com/example/ms2rank/ms2rank/matching/MassTolerance" "absolute" "D" (.double (FP.l2d (aa).toInt64)) := p4_2.ext E6
    have f10 : Fld Z h6 b6 "com/example/ms2rank/ms2rank/matching/MassTolerance" "ppm" "D" (defaultValue .double) := D6 (Or.inr (hw _ (List.mem_of_getElem? (i := 27) rfl))) (ty := .double) (by decide)
    have f11 : Fld Z h6 b6 "com/example/ms2rank/ms2rank/matching/MassTolerance" "absolute" "D" (defaultValue .double) := D6 (Or.inr (hw _ (List.mem_of_getElem? (i := 29) rfl))) (ty := .double) (by decide)
    have Z6 : n0 ≤ h6.size := Nat.le_trans Z4 E6.1
    refine own_st st6 ?_
    show own_Go p e below K (T6.setTop (mkF m 126 #[.val (.int q1), .val (.int q2), .val (.int q3), .val (.int q4), .val (.int aa), .val (.int kk), .val (.double FP.dconst0), .second, .val (.double FP.dconst1), .second, .val (.ref b1), .val (.double (FP.l2d xx)), .second, .val (.double (FP.dmul (FP.l2d xx) FP.dconst1)), .second, .val (.int (1 : Int32)), .unset, .unset, .unset, .unset] [(.ref b6)]))
    try clear X5 e5 st6 p4_0 p4_1 p4_2
    refine own_st (fun t k => XS.dup X6.here hx rfl (hb hby at_126) rfl rfl k) ?_
    show own_Go p e below K (T6.setTop (mkF m 127 #[.val (.int q1), .val (.int q2), .val (.int q3), .val (.int q4), .val (.int aa), .val (.int kk), .val (.double FP.dconst0), .second, .val (.double FP.dconst1), .second, .val (.ref b1), .val (.double (FP.l2d xx)), .second, .val (.double (FP.dmul (FP.l2d xx) FP.dconst1)), .second, .val (.int (1 : Int32)), .unset, .unset, .unset, .unset] [(.ref b6), (.ref b6)]))
    refine own_st (fun t k => XS.iloadN X6.here hx rfl (hb hby at_127) rfl k) ?_
    show own_Go p e below K (T6.setTop (mkF m 128 #[.val (.int q1), .val (.int q2), .val (.int q3), .val (.int q4), .val (.int aa), .val (.int kk), .val (.double FP.dconst0), .second, .val (.double FP.dconst1), .second, .val (.ref b1), .val (.double (FP.l2d xx)), .second, .val (.double (FP.dmul (FP.l2d xx) FP.dconst1)), .second, .val (.int (1 : Int32)), .unset, .unset, .unset, .unset] [(.int q4), (.ref b6), (.ref b6)]))
    refine own_st (X6.ldcInt hx hown (mvT hZ (hw _ (List.mem_of_getElem? (i := 36) rfl))) (g := (mkF m 128 #[.val (.int q1), .val (.int q2), .val (.int q3), .val (.int q4), .val (.int aa), .val (.int kk), .val (.double FP.dconst0), .second, .val (.double FP.dconst1), .second, .val (.ref b1), .val (.double (FP.l2d xx)), .second, .val (.double (FP.dmul (FP.l2d xx) FP.dconst1)), .second, .val (.int (1 : Int32)), .unset, .unset, .unset, .unset] [(.int q4), (.ref b6), (.ref b6)])) rfl (hb hby at_128)) ?_
    show own_Go p e below K (T6.setTop (mkF m 130 #[.val (.int q1), .val (.int q2), .val (.int q3), .val (.int q4), .val (.int aa), .val (.int kk), .val (.double FP.dconst0), .second, .val (.double FP.dconst1), .second, .val (.ref b1), .val (.double (FP.l2d xx)), .second, .val (.double (FP.dmul (FP.l2d xx) FP.dconst1)), .second, .val (.int (1 : Int32)), .unset, .unset, .unset, .unset] [(.int (1048575 : Int32)), (.int q4), (.ref b6), (.ref b6)]))
    refine own_st (fun t k => XS.iand X6.here hx rfl (hb hby at_130) rfl k) ?_
    show own_Go p e below K (T6.setTop (mkF m 131 #[.val (.int q1), .val (.int q2), .val (.int q3), .val (.int q4), .val (.int aa), .val (.int kk), .val (.double FP.dconst0), .second, .val (.double FP.dconst1), .second, .val (.ref b1), .val (.double (FP.l2d xx)), .second, .val (.double (FP.dmul (FP.l2d xx) FP.dconst1)), .second, .val (.int (1 : Int32)), .unset, .unset, .unset, .unset] [(.int (q4 &&& (1048575 : Int32))), (.ref b6), (.ref b6)]))
    generalize hpp : (q4 &&& (1048575 : Int32)) = pp
    show own_Go p e below K (T6.setTop (mkF m 131 #[.val (.int q1), .val (.int q2), .val (.int q3), .val (.int q4), .val (.int aa), .val (.int kk), .val (.double FP.dconst0), .second, .val (.double FP.dconst1), .second, .val (.ref b1), .val (.double (FP.l2d xx)), .second, .val (.double (FP.dmul (FP.l2d xx) FP.dconst1)), .second, .val (.int (1 : Int32)), .unset, .unset, .unset, .unset] [(.int pp), (.ref b6), (.ref b6)]))
    have hpb := own_pp hpp
    refine own_st (fun t k => XS.i2dS X6.here hx rfl (hb hby at_131) rfl (i2d_w pp) k) ?_
    show own_Go p e below K (T6.setTop (mkF m 132 #[.val (.int q1), .val (.int q2), .val (.int q3), .val (.int q4), .val (.int aa), .val (.int kk), .val (.double FP.dconst0), .second, .val (.double FP.dconst1), .second, .val (.ref b1), .val (.double (FP.l2d xx)), .second, .val (.double (FP.dmul (FP.l2d xx) FP.dconst1)), .second, .val (.int (1 : Int32)), .unset, .unset, .unset, .unset] [(.double (FP.l2d (pp).toInt64)), (.ref b6), (.ref b6)]))
    refine own_st (fun t k => XS.iload X6.here hx rfl (hb hby at_132) rfl k) ?_
    show own_Go p e below K (T6.setTop (mkF m 134 #[.val (.int q1), .val (.int q2), .val (.int q3), .val (.int q4), .val (.int aa), .val (.int kk), .val (.double FP.dconst0), .second, .val (.double FP.dconst1), .second, .val (.ref b1), .val (.double (FP.l2d xx)), .second, .val (.double (FP.dmul (FP.l2d xx) FP.dconst1)), .second, .val (.int (1 : Int32)), .unset, .unset, .unset, .unset] [(.int aa), (.double (FP.l2d (pp).toInt64)), (.ref b6), (.ref b6)]))
    refine own_st (fun t k => XS.i2dS X6.here hx rfl (hb hby at_134) rfl (i2d_w aa) k) ?_
    show own_Go p e below K (T6.setTop (mkF m 135 #[.val (.int q1), .val (.int q2), .val (.int q3), .val (.int q4), .val (.int aa), .val (.int kk), .val (.double FP.dconst0), .second, .val (.double FP.dconst1), .second, .val (.ref b1), .val (.double (FP.l2d xx)), .second, .val (.double (FP.dmul (FP.l2d xx) FP.dconst1)), .second, .val (.int (1 : Int32)), .unset, .unset, .unset, .unset] [(.double (FP.l2d (aa).toInt64)), (.double (FP.l2d (pp).toInt64)), (.ref b6), (.ref b6)]))
    obtain ⟨_, _, ⟨T12, L12, k12, n12⟩, -, X12, ⟨Lc12, hQ12, l12, y12, z12⟩, st12⟩ := X6.specialBack hx (y := (⟨"com/example/ms2rank/ms2rank/matching/MassTolerance", "<init>", "(DD)V"⟩ : MethodName)) rfl hown (mvT hZ (hw _ (List.mem_of_getElem? (i := 6) rfl))) (mvT hZ (hw _ (List.mem_of_getElem? (i := 7) rfl))) (mvT hZ (hw _ (List.mem_of_getElem? (i := 8) rfl))) (by decide) (backOf (W := 1) (rm1 l Z a0 hw [] b6 (FP.l2d (pp).toInt64) (FP.l2d (aa).toInt64) ((pp).toInt64) ((aa).toInt64) h6 n0 Z6 g_b6 A6 f10 f11 rfl rfl hpb haa) hZ (hw _ (List.mem_of_getElem? (i := 8) rfl)) (hw _ (List.mem_of_getElem? (i := 5) rfl)) (by decide) (by decide)) (g := (mkF m 135 #[.val (.int q1), .val (.int q2), .val (.int q3), .val (.int q4), .val (.int aa), .val (.int kk), .val (.double FP.dconst0), .second, .val (.double FP.dconst1), .second, .val (.ref b1), .val (.double (FP.l2d xx)), .second, .val (.double (FP.dmul (FP.l2d xx) FP.dconst1)), .second, .val (.int (1 : Int32)), .unset, .unset, .unset, .unset] [(.double (FP.l2d (aa).toInt64)), (.double (FP.l2d (pp).toInt64)), (.ref b6), (.ref b6)])) rfl (by rw [hml]; rfl) (Steps.refl _) (a := b6) (argsL := [(.double (FP.l2d (pp).toInt64)), (.double (FP.l2d (aa).toInt64))]) (rest := [(.ref b6)]) (lenOf pd_0_0 rfl) rfl (by show 2 * 0 + _ ≤ _; exact Nat.le_of_eq rfl) (hb hby at_135) (fun _ _ => ⟨rfl, e6, (by decide : 2 + 0 ≤ _), (by decide : 4 + 0 ≤ _)⟩)
    dsimp only [Pt.U, Pt.locs, Pt.cells, Pt.slots] at X12 l12 y12 z12 st12 hQ12
    obtain ⟨rfl, N12q, Kq12, p12_0, p12_1, p12_2⟩ := hQ12
    have N12 : Fr n0 L12 := by rw [l12]; exact Fr.app N5 N12q
    clear l12
    have y12' : k12 = 2 := y12
    have z12' : n12 = 4 := z12
    clear y12 z12
    subst y12' z12'
    have f13 : Exa Z T12.heap b1 "com/example/ms2rank/ms2rank/matching/MassTolerance" := f7.keep Kq12
    have f14 : Fld Z T12.heap b1 "com/example/ms2rank/ms2rank/matching/MassTolerance" "ppm" "D" (.double FP.dconst0) := f8.keep Kq12 (ninS ne_b1_b6 nin0)
    have f15 : Fld Z T12.heap b1 "com/example/ms2rank/ms2rank/matching/MassTolerance" "absolute" "D" (.double (FP.l2d (aa).toInt64)) := f9.keep Kq12 (ninS ne_b1_b6 nin0)
    have Z12 : n0 ≤ T12.heap.size := Nat.le_trans Z6 Kq12.1
    refine own_tr st12 ?_
    show own_Go p e below K (T12.setTop (mkF m 138 #[.val (.int q1), .val (.int q2), .val (.int q3), .val (.int q4), .val (.int aa), .val (.int kk), .val (.double FP.dconst0), .second, .val (.double FP.dconst1), .second, .val (.ref b1), .val (.double (FP.l2d xx)), .second, .val (.double (FP.dmul (FP.l2d xx) FP.dconst1)), .second, .val (.int (1 : Int32)), .unset, .unset, .unset, .unset] [(.ref b6)]))
    try clear X6 e6 st12 N5 N12q f7 f8 f9
    refine own_st (fun t k => XS.astore X12.here hx rfl (hb hby at_138) rfl rfl (l' := #[.val (.int q1), .val (.int q2), .val (.int q3), .val (.int q4), .val (.int aa), .val (.int kk), .val (.double FP.dconst0), .second, .val (.double FP.dconst1), .second, .val (.ref b1), .val (.double (FP.l2d xx)), .second, .val (.double (FP.dmul (FP.l2d xx) FP.dconst1)), .second, .val (.int (1 : Int32)), .val (.ref b6), .unset, .unset, .unset]) rfl k) ?_
    show own_Go p e below K (T12.setTop (mkF m 140 #[.val (.int q1), .val (.int q2), .val (.int q3), .val (.int q4), .val (.int aa), .val (.int kk), .val (.double FP.dconst0), .second, .val (.double FP.dconst1), .second, .val (.ref b1), .val (.double (FP.l2d xx)), .second, .val (.double (FP.dmul (FP.l2d xx) FP.dconst1)), .second, .val (.int (1 : Int32)), .val (.ref b6), .unset, .unset, .unset] []))
    refine own_st (fun t k => XS.aload X12.here hx rfl (hb hby at_140) rfl rfl k) ?_
    show own_Go p e below K (T12.setTop (mkF m 142 #[.val (.int q1), .val (.int q2), .val (.int q3), .val (.int q4), .val (.int aa), .val (.int kk), .val (.double FP.dconst0), .second, .val (.double FP.dconst1), .second, .val (.ref b1), .val (.double (FP.l2d xx)), .second, .val (.double (FP.dmul (FP.l2d xx) FP.dconst1)), .second, .val (.int (1 : Int32)), .val (.ref b6), .unset, .unset, .unset] [(.ref b6)]))
    refine own_st (fun t k => XS.iloadN X12.here hx rfl (hb hby at_142) rfl k) ?_
    show own_Go p e below K (T12.setTop (mkF m 143 #[.val (.int q1), .val (.int q2), .val (.int q3), .val (.int q4), .val (.int aa), .val (.int kk), .val (.double FP.dconst0), .second, .val (.double FP.dconst1), .second, .val (.ref b1), .val (.double (FP.l2d xx)), .second, .val (.double (FP.dmul (FP.l2d xx) FP.dconst1)), .second, .val (.int (1 : Int32)), .val (.ref b6), .unset, .unset, .unset] [(.int q1), (.ref b6)]))
    refine own_st (fun t k => XS.i2dS X12.here hx rfl (hb hby at_143) rfl (i2d_w q1) k) ?_
    show own_Go p e below K (T12.setTop (mkF m 144 #[.val (.int q1), .val (.int q2), .val (.int q3), .val (.int q4), .val (.int aa), .val (.int kk), .val (.double FP.dconst0), .second, .val (.double FP.dconst1), .second, .val (.ref b1), .val (.double (FP.l2d xx)), .second, .val (.double (FP.dmul (FP.l2d xx) FP.dconst1)), .second, .val (.int (1 : Int32)), .val (.ref b6), .unset, .unset, .unset] [(.double (FP.l2d (q1).toInt64)), (.ref b6)]))
    obtain ⟨cq16, kq16, qv16a, qv16b, qv16c⟩ := isOf hZ rfl p12_0
    obtain ⟨_, _, ⟨T16, L16, k16, n16⟩, -, X16, ⟨Lc16, hQ16, l16, y16, z16⟩, st16⟩ := X12.virtualBack hx (y := (⟨"com/example/ms2rank/ms2rank/matching/MassTolerance", "lowestMatch", "(D)D"⟩ : MethodName)) (z := (⟨"com/example/ms2rank/ms2rank/matching/MassTolerance", "lowestMatch", "(D)D"⟩ : MethodName)) hown (mvT hZ (hw _ (List.mem_of_getElem? (i := 30) rfl))) (mvT hZ (hw _ (List.mem_of_getElem? (i := 31) rfl))) (notFace_of_selects (args := #[]) (mvT hZ (hw _ (List.mem_of_getElem? (i := 33) rfl)))) (mvT hZ (hw _ (List.mem_of_getElem? (i := 33) rfl))) (mvT hZ (hw _ (List.mem_of_getElem? (i := 32) rfl))) (by decide) (backOf (W := 0) (rm6 l Z a0 hw [] b6 (FP.l2d (q1).toInt64) ((FP.l2d (aa).toInt64)) ((FP.l2d (pp).toInt64)) (xx) T12.heap n0 Z12 p12_2 p12_1 (own_ds hxx) (own_m2 rfl hpb) (own_m3 rfl hpb) (own_m4 xx rfl hpb)) hZ (hw _ (List.mem_of_getElem? (i := 34) rfl)) (hw _ (List.mem_of_getElem? (i := 5) rfl)) (by decide) (by decide)) qv16a qv16c (g := (mkF m 144 #[.val (.int q1), .val (.int q2), .val (.int q3), .val (.int q4), .val (.int aa), .val (.int kk), .val (.double FP.dconst0), .second, .val (.double FP.dconst1), .second, .val (.ref b1), .val (.double (FP.l2d xx)), .second, .val (.double (FP.dmul (FP.l2d xx) FP.dconst1)), .second, .val (.int (1 : Int32)), .val (.ref b6), .unset, .unset, .unset] [(.double (FP.l2d (q1).toInt64)), (.ref b6)])) rfl (by rw [hml]; rfl) (Steps.refl _) (argsL := [(.double (FP.l2d (q1).toInt64))]) (rest := []) (lenOf pd_0_3 rfl) rfl (by show 2 * 0 + _ ≤ _; exact Nat.le_of_eq rfl) (hb hby at_144) (fun _ _ => ⟨rfl, rfl, (by decide : 2 + 0 ≤ _), (by decide : 4 + 0 ≤ _)⟩)
    dsimp only [Pt.U, Pt.locs, Pt.cells, Pt.slots] at X16 l16 y16 z16 st16 hQ16
    obtain ⟨r16, rfl, hr16, N16q, e16⟩ := hQ16
    have N16 : Fr n0 L16 := by rw [l16]; exact Fr.app N12 N16q
    clear l16
    have y16' : k16 = 2 := y16
    have z16' : n16 = 4 := z16
    clear y16 z16
    subst y16' z16'
    refine own_tr st16 ?_
    show own_Go p e below K (T16.setTop (mkF m 147 #[.val (.int q1), .val (.int q2), .val (.int q3), .val (.int q4), .val (.int aa), .val (.int kk), .val (.double FP.dconst0), .second, .val (.double FP.dconst1), .second, .val (.ref b1), .val (.double (FP.l2d xx)), .second, .val (.double (FP.dmul (FP.l2d xx) FP.dconst1)), .second, .val (.int (1 : Int32)), .val (.ref b6), .unset, .unset, .unset] [(.double r16)]))
    try clear X12 st16 N12 N16q
    refine own_st (fun t k => XS.dstore X16.here hx rfl (hb hby at_147) rfl (l' := #[.val (.int q1), .val (.int q2), .val (.int q3), .val (.int q4), .val (.int aa), .val (.int kk), .val (.double FP.dconst0), .second, .val (.double FP.dconst1), .second, .val (.ref b1), .val (.double (FP.l2d xx)), .second, .val (.double (FP.dmul (FP.l2d xx) FP.dconst1)), .second, .val (.int (1 : Int32)), .val (.ref b6), .val (.double r16), .second, .unset]) rfl k) ?_
    show own_Go p e below K (T16.setTop (mkF m 149 #[.val (.int q1), .val (.int q2), .val (.int q3), .val (.int q4), .val (.int aa), .val (.int kk), .val (.double FP.dconst0), .second, .val (.double FP.dconst1), .second, .val (.ref b1), .val (.double (FP.l2d xx)), .second, .val (.double (FP.dmul (FP.l2d xx) FP.dconst1)), .second, .val (.int (1 : Int32)), .val (.ref b6), .val (.double r16), .second, .unset] []))
    refine own_st (fun t k => XS.dload X16.here hx rfl (hb hby at_149) rfl k) ?_
    show own_Go p e below K (T16.setTop (mkF m 151 #[.val (.int q1), .val (.int q2), .val (.int q3), .val (.int q4), .val (.int aa), .val (.int kk), .val (.double FP.dconst0), .second, .val (.double FP.dconst1), .second, .val (.ref b1), .val (.double (FP.l2d xx)), .second, .val (.double (FP.dmul (FP.l2d xx) FP.dconst1)), .second, .val (.int (1 : Int32)), .val (.ref b6), .val (.double r16), .second, .unset] [(.double (FP.l2d xx))]))
    refine own_st (fun t k => XS.dconst0 X16.here hx rfl (hb hby at_151) rfl k) ?_
    show own_Go p e below K (T16.setTop (mkF m 152 #[.val (.int q1), .val (.int q2), .val (.int q3), .val (.int q4), .val (.int aa), .val (.int kk), .val (.double FP.dconst0), .second, .val (.double FP.dconst1), .second, .val (.ref b1), .val (.double (FP.l2d xx)), .second, .val (.double (FP.dmul (FP.l2d xx) FP.dconst1)), .second, .val (.int (1 : Int32)), .val (.ref b6), .val (.double r16), .second, .unset] [(.double FP.dconst0), (.double (FP.l2d xx))]))
    refine own_st (fun t k => XS.dcmpS X16.here hx rfl (hb hby at_152) rfl (own_lc rfl hxb .l) k) ?_
    show own_Go p e below K (T16.setTop (mkF m 153 #[.val (.int q1), .val (.int q2), .val (.int q3), .val (.int q4), .val (.int aa), .val (.int kk), .val (.double FP.dconst0), .second, .val (.double FP.dconst1), .second, .val (.ref b1), .val (.double (FP.l2d xx)), .second, .val (.double (FP.dmul (FP.l2d xx) FP.dconst1)), .second, .val (.int (1 : Int32)), .val (.ref b6), .val (.double r16), .second, .unset] [(.int (lcmpW xx (0 : Int64)))]))
    by_cases hc153 : xx < (0 : Int64)
    · refine own_st (fun t k => XS.ifYes X16.here hx rfl (pc0 := 153) (pc' := 181) rfl (hb hby at_153) rfl ((if0 _ _).trans (tlt ((lw_lt xx (0 : Int64)).mpr hc153)).1) (by decide) (by decide) k) ?_
      show own_Go p e below K (T16.setTop (mkF m 181 #[.val (.int q1), .val (.int q2), .val (.int q3), .val (.int q4), .val (.int aa), .val (.int kk), .val (.double FP.dconst0), .second, .val (.double FP.dconst1), .second, .val (.ref b1), .val (.double (FP.l2d xx)), .second, .val (.double (FP.dmul (FP.l2d xx) FP.dconst1)), .second, .val (.int (1 : Int32)), .val (.ref b6), .val (.double r16), .second, .unset] []))
      refine own_st (fun t k => XS.dload X16.here hx rfl (hb hby at_181) rfl k) ?_
      show own_Go p e below K (T16.setTop (mkF m 183 #[.val (.int q1), .val (.int q2), .val (.int q3), .val (.int q4), .val (.int aa), .val (.int kk), .val (.double FP.dconst0), .second, .val (.double FP.dconst1), .second, .val (.ref b1), .val (.double (FP.l2d xx)), .second, .val (.double (FP.dmul (FP.l2d xx) FP.dconst1)), .second, .val (.int (1 : Int32)), .val (.ref b6), .val (.double r16), .second, .unset] [(.double (FP.l2d xx))]))
      refine own_st (fun t k => XS.dload X16.here hx rfl (hb hby at_183) rfl k) ?_
      show own_Go p e below K (T16.setTop (mkF m 185 #[.val (.int q1), .val (.int q2), .val (.int q3), .val (.int q4), .val (.int aa), .val (.int kk), .val (.double FP.dconst0), .second, .val (.double FP.dconst1), .second, .val (.ref b1), .val (.double (FP.l2d xx)), .second, .val (.double (FP.dmul (FP.l2d xx) FP.dconst1)), .second, .val (.int (1 : Int32)), .val (.ref b6), .val (.double r16), .second, .unset] [(.double r16), (.double (FP.l2d xx))]))
      refine own_st (fun t k => XS.dcmpS X16.here hx rfl (hb hby at_185) rfl rfl k) ?_
      show own_Go p e below K (T16.setTop (mkF m 186 #[.val (.int q1), .val (.int q2), .val (.int q3), .val (.int q4), .val (.int aa), .val (.int kk), .val (.double FP.dconst0), .second, .val (.double FP.dconst1), .second, .val (.ref b1), .val (.double (FP.l2d xx)), .second, .val (.double (FP.dmul (FP.l2d xx) FP.dconst1)), .second, .val (.int (1 : Int32)), .val (.ref b6), .val (.double r16), .second, .unset] [(.int (cmpValue (FP.dcmp (FP.l2d xx) r16) .g))]))
      refine own_st (fun t k => XS.ifNo X16.here hx rfl (hb hby at_186) rfl ((if0 _ _).trans (flt (own_ng (hr16 ▸ ((own_bnd (x := xx) (own_g rfl hpb)).2 (own_x1 hc153)).1) : ¬ ((0 : Int32) < (cmpValue (FP.dcmp (FP.l2d xx) r16) .g)))).2.2.1) k) ?_
      show own_Go p e below K (T16.setTop (mkF m 189 #[.val (.int q1), .val (.int q2), .val (.int q3), .val (.int q4), .val (.int aa), .val (.int kk), .val (.double FP.dconst0), .second, .val (.double FP.dconst1), .second, .val (.ref b1), .val (.double (FP.l2d xx)), .second, .val (.double (FP.dmul (FP.l2d xx) FP.dconst1)), .second, .val (.int (1 : Int32)), .val (.ref b6), .val (.double r16), .second, .unset] []))
      refine own_st (fun t k => XS.dload X16.here hx rfl (hb hby at_189) rfl k) ?_
      show own_Go p e below K (T16.setTop (mkF m 191 #[.val (.int q1), .val (.int q2), .val (.int q3), .val (.int q4), .val (.int aa), .val (.int kk), .val (.double FP.dconst0), .second, .val (.double FP.dconst1), .second, .val (.ref b1), .val (.double (FP.l2d xx)), .second, .val (.double (FP.dmul (FP.l2d xx) FP.dconst1)), .second, .val (.int (1 : Int32)), .val (.ref b6), .val (.double r16), .second, .unset] [(.double r16)]))
      refine own_st (fun t k => XS.dconst0 X16.here hx rfl (hb hby at_191) rfl k) ?_
      show own_Go p e below K (T16.setTop (mkF m 192 #[.val (.int q1), .val (.int q2), .val (.int q3), .val (.int q4), .val (.int aa), .val (.int kk), .val (.double FP.dconst0), .second, .val (.double FP.dconst1), .second, .val (.ref b1), .val (.double (FP.l2d xx)), .second, .val (.double (FP.dmul (FP.l2d xx) FP.dconst1)), .second, .val (.int (1 : Int32)), .val (.ref b6), .val (.double r16), .second, .unset] [(.double FP.dconst0), (.double r16)]))
      refine own_st (fun t k => XS.dcmpS X16.here hx rfl (hb hby at_192) rfl rfl k) ?_
      show own_Go p e below K (T16.setTop (mkF m 193 #[.val (.int q1), .val (.int q2), .val (.int q3), .val (.int q4), .val (.int aa), .val (.int kk), .val (.double FP.dconst0), .second, .val (.double FP.dconst1), .second, .val (.ref b1), .val (.double (FP.l2d xx)), .second, .val (.double (FP.dmul (FP.l2d xx) FP.dconst1)), .second, .val (.int (1 : Int32)), .val (.ref b6), .val (.double r16), .second, .unset] [(.int (cmpValue (FP.dcmp r16 FP.dconst0) .g))]))
      refine own_st (fun t k => XS.ifNo X16.here hx rfl (hb hby at_193) rfl ((if0 _ _).trans (flt (own_ng (hr16 ▸ ((own_bnd (x := xx) (own_g rfl hpb)).2 (own_x1 hc153)).2) : ¬ ((0 : Int32) < (cmpValue (FP.dcmp r16 FP.dconst0) .g)))).2.2.1) k) ?_
      show own_Go p e below K (T16.setTop (mkF m 196 #[.val (.int q1), .val (.int q2), .val (.int q3), .val (.int q4), .val (.int aa), .val (.int kk), .val (.double FP.dconst0), .second, .val (.double FP.dconst1), .second, .val (.ref b1), .val (.double (FP.l2d xx)), .second, .val (.double (FP.dmul (FP.l2d xx) FP.dconst1)), .second, .val (.int (1 : Int32)), .val (.ref b6), .val (.double r16), .second, .unset] []))
      refine own_st (fun t k => XS.iconst X16.here hx rfl (hb hby at_196) k) ?_
      show own_Go p e below K (T16.setTop (mkF m 197 #[.val (.int q1), .val (.int q2), .val (.int q3), .val (.int q4), .val (.int aa), .val (.int kk), .val (.double FP.dconst0), .second, .val (.double FP.dconst1), .second, .val (.ref b1), .val (.double (FP.l2d xx)), .second, .val (.double (FP.dmul (FP.l2d xx) FP.dconst1)), .second, .val (.int (1 : Int32)), .val (.ref b6), .val (.double r16), .second, .unset] [(.int (1 : Int32))]))
      refine own_st (fun t k => XS.goto X16.here hx rfl (pc0 := 197) (pc' := 201) rfl (hb hby at_197) (by decide) (by decide) k) ?_
      show own_Go p e below K (T16.setTop (mkF m 201 #[.val (.int q1), .val (.int q2), .val (.int q3), .val (.int q4), .val (.int aa), .val (.int kk), .val (.double FP.dconst0), .second, .val (.double FP.dconst1), .second, .val (.ref b1), .val (.double (FP.l2d xx)), .second, .val (.double (FP.dmul (FP.l2d xx) FP.dconst1)), .second, .val (.int (1 : Int32)), .val (.ref b6), .val (.double r16), .second, .unset] [(.int (1 : Int32))]))
      refine own_st (fun t k => XS.istore X16.here hx rfl (hb hby at_201) rfl (l' := #[.val (.int q1), .val (.int q2), .val (.int q3), .val (.int q4), .val (.int aa), .val (.int kk), .val (.double FP.dconst0), .second, .val (.double FP.dconst1), .second, .val (.ref b1), .val (.double (FP.l2d xx)), .second, .val (.double (FP.dmul (FP.l2d xx) FP.dconst1)), .second, .val (.int (1 : Int32)), .val (.ref b6), .val (.double r16), .second, .val (.int (1 : Int32))]) rfl k) ?_
      show own_Go p e below K (T16.setTop (mkF m 203 #[.val (.int q1), .val (.int q2), .val (.int q3), .val (.int q4), .val (.int aa), .val (.int kk), .val (.double FP.dconst0), .second, .val (.double FP.dconst1), .second, .val (.ref b1), .val (.double (FP.l2d xx)), .second, .val (.double (FP.dmul (FP.l2d xx) FP.dconst1)), .second, .val (.int (1 : Int32)), .val (.ref b6), .val (.double r16), .second, .val (.int (1 : Int32))] []))
      refine own_st (fun t k => XS.iload X16.here hx rfl (hb hby at_203) rfl k) ?_
      show own_Go p e below K (T16.setTop (mkF m 205 #[.val (.int q1), .val (.int q2), .val (.int q3), .val (.int q4), .val (.int aa), .val (.int kk), .val (.double FP.dconst0), .second, .val (.double FP.dconst1), .second, .val (.ref b1), .val (.double (FP.l2d xx)), .second, .val (.double (FP.dmul (FP.l2d xx) FP.dconst1)), .second, .val (.int (1 : Int32)), .val (.ref b6), .val (.double r16), .second, .val (.int (1 : Int32))] [(.int (1 : Int32))]))
      refine own_st (fun t k => XS.ifNo X16.here hx rfl (hb hby at_205) rfl ((if0 _ _).trans (feq (by decide : ¬ ((1 : Int32) = (0 : Int32)))).1) k) ?_
      show own_Go p e below K (T16.setTop (mkF m 208 #[.val (.int q1), .val (.int q2), .val (.int q3), .val (.int q4), .val (.int aa), .val (.int kk), .val (.double FP.dconst0), .second, .val (.double FP.dconst1), .second, .val (.ref b1), .val (.double (FP.l2d xx)), .second, .val (.double (FP.dmul (FP.l2d xx) FP.dconst1)), .second, .val (.int (1 : Int32)), .val (.ref b6), .val (.double r16), .second, .val (.int (1 : Int32))] []))
      refine own_st (fun t k => XS.iload X16.here hx rfl (hb hby at_208) rfl k) ?_
      show own_Go p e below K (T16.setTop (mkF m 210 #[.val (.int q1), .val (.int q2), .val (.int q3), .val (.int q4), .val (.int aa), .val (.int kk), .val (.double FP.dconst0), .second, .val (.double FP.dconst1), .second, .val (.ref b1), .val (.double (FP.l2d xx)), .second, .val (.double (FP.dmul (FP.l2d xx) FP.dconst1)), .second, .val (.int (1 : Int32)), .val (.ref b6), .val (.double r16), .second, .val (.int (1 : Int32))] [(.int (1 : Int32))]))
      refine own_st (fun t k => XS.ifNo X16.here hx rfl (hb hby at_210) rfl ((if0 _ _).trans (feq (by decide : ¬ ((1 : Int32) = (0 : Int32)))).1) k) ?_
      show own_Go p e below K (T16.setTop (mkF m 213 #[.val (.int q1), .val (.int q2), .val (.int q3), .val (.int q4), .val (.int aa), .val (.int kk), .val (.double FP.dconst0), .second, .val (.double FP.dconst1), .second, .val (.ref b1), .val (.double (FP.l2d xx)), .second, .val (.double (FP.dmul (FP.l2d xx) FP.dconst1)), .second, .val (.int (1 : Int32)), .val (.ref b6), .val (.double r16), .second, .val (.int (1 : Int32))] []))
      refine own_st (fun t k => XS.iconst X16.here hx rfl (hb hby at_213) k) ?_
      show own_Go p e below K (T16.setTop (mkF m 214 #[.val (.int q1), .val (.int q2), .val (.int q3), .val (.int q4), .val (.int aa), .val (.int kk), .val (.double FP.dconst0), .second, .val (.double FP.dconst1), .second, .val (.ref b1), .val (.double (FP.l2d xx)), .second, .val (.double (FP.dmul (FP.l2d xx) FP.dconst1)), .second, .val (.int (1 : Int32)), .val (.ref b6), .val (.double r16), .second, .val (.int (1 : Int32))] [(.int (1 : Int32))]))
      refine own_st (fun t k => XS.goto X16.here hx rfl (pc0 := 214) (pc' := 218) rfl (hb hby at_214) (by decide) (by decide) k) ?_
      show own_Go p e below K (T16.setTop (mkF m 218 #[.val (.int q1), .val (.int q2), .val (.int q3), .val (.int q4), .val (.int aa), .val (.int kk), .val (.double FP.dconst0), .second, .val (.double FP.dconst1), .second, .val (.ref b1), .val (.double (FP.l2d xx)), .second, .val (.double (FP.dmul (FP.l2d xx) FP.dconst1)), .second, .val (.int (1 : Int32)), .val (.ref b6), .val (.double r16), .second, .val (.int (1 : Int32))] [(.int (1 : Int32))]))
      obtain ⟨fs, hr, hrun, hended, hW, hsame⟩ := X16.leave (v := some (.int (nar .boolean (1 : Int32)))) (fun h => by rw [Bd.returns] at h; cases h)
      refine ⟨_, retN X16 hx (t := .boolean) Bd.returns (by simp) (hb hby at_218) hr, fin _ _ _ hrun hended ?_ ⟨⟨_, rfl⟩, hW, hsame.mono (by decide) (by decide)⟩⟩
      show Q0 Z q1 q2 q3 q4 h0 n0 _ T16.heap _
      rw [e16]
      exact ⟨rfl, N16⟩
    refine own_st (fun t k => XS.ifNo X16.here hx rfl (hb hby at_153) rfl ((if0 _ _).trans (flt (fun q => hc153 ((lw_lt xx (0 : Int64)).mp q))).1) k) ?_
    show own_Go p e below K (T16.setTop (mkF m 156 #[.val (.int q1), .val (.int q2), .val (.int q3), .val (.int q4), .val (.int aa), .val (.int kk), .val (.double FP.dconst0), .second, .val (.double FP.dconst1), .second, .val (.ref b1), .val (.double (FP.l2d xx)), .second, .val (.double (FP.dmul (FP.l2d xx) FP.dconst1)), .second, .val (.int (1 : Int32)), .val (.ref b6), .val (.double r16), .second, .unset] []))
    refine own_st (fun t k => XS.dconst0 X16.here hx rfl (hb hby at_156) rfl k) ?_
    show own_Go p e below K (T16.setTop (mkF m 157 #[.val (.int q1), .val (.int q2), .val (.int q3), .val (.int q4), .val (.int aa), .val (.int kk), .val (.double FP.dconst0), .second, .val (.double FP.dconst1), .second, .val (.ref b1), .val (.double (FP.l2d xx)), .second, .val (.double (FP.dmul (FP.l2d xx) FP.dconst1)), .second, .val (.int (1 : Int32)), .val (.ref b6), .val (.double r16), .second, .unset] [(.double FP.dconst0)]))
    refine own_st (fun t k => XS.dload X16.here hx rfl (hb hby at_157) rfl k) ?_
    show own_Go p e below K (T16.setTop (mkF m 159 #[.val (.int q1), .val (.int q2), .val (.int q3), .val (.int q4), .val (.int aa), .val (.int kk), .val (.double FP.dconst0), .second, .val (.double FP.dconst1), .second, .val (.ref b1), .val (.double (FP.l2d xx)), .second, .val (.double (FP.dmul (FP.l2d xx) FP.dconst1)), .second, .val (.int (1 : Int32)), .val (.ref b6), .val (.double r16), .second, .unset] [(.double r16), (.double FP.dconst0)]))
    refine own_st (fun t k => XS.dcmpS X16.here hx rfl (hb hby at_159) rfl rfl k) ?_
    show own_Go p e below K (T16.setTop (mkF m 160 #[.val (.int q1), .val (.int q2), .val (.int q3), .val (.int q4), .val (.int aa), .val (.int kk), .val (.double FP.dconst0), .second, .val (.double FP.dconst1), .second, .val (.ref b1), .val (.double (FP.l2d xx)), .second, .val (.double (FP.dmul (FP.l2d xx) FP.dconst1)), .second, .val (.int (1 : Int32)), .val (.ref b6), .val (.double r16), .second, .unset] [(.int (cmpValue (FP.dcmp FP.dconst0 r16) .g))]))
    refine own_st (fun t k => XS.ifNo X16.here hx rfl (hb hby at_160) rfl ((if0 _ _).trans (flt (own_ng (hr16 ▸ ((own_bnd (x := xx) (own_g rfl hpb)).1 (own_x0 hc153)).1) : ¬ ((0 : Int32) < (cmpValue (FP.dcmp FP.dconst0 r16) .g)))).2.2.1) k) ?_
    show own_Go p e below K (T16.setTop (mkF m 163 #[.val (.int q1), .val (.int q2), .val (.int q3), .val (.int q4), .val (.int aa), .val (.int kk), .val (.double FP.dconst0), .second, .val (.double FP.dconst1), .second, .val (.ref b1), .val (.double (FP.l2d xx)), .second, .val (.double (FP.dmul (FP.l2d xx) FP.dconst1)), .second, .val (.int (1 : Int32)), .val (.ref b6), .val (.double r16), .second, .unset] []))
    refine own_st (fun t k => XS.dload X16.here hx rfl (hb hby at_163) rfl k) ?_
    show own_Go p e below K (T16.setTop (mkF m 165 #[.val (.int q1), .val (.int q2), .val (.int q3), .val (.int q4), .val (.int aa), .val (.int kk), .val (.double FP.dconst0), .second, .val (.double FP.dconst1), .second, .val (.ref b1), .val (.double (FP.l2d xx)), .second, .val (.double (FP.dmul (FP.l2d xx) FP.dconst1)), .second, .val (.int (1 : Int32)), .val (.ref b6), .val (.double r16), .second, .unset] [(.double r16)]))
    refine own_st (fun t k => XS.dload X16.here hx rfl (hb hby at_165) rfl k) ?_
    show own_Go p e below K (T16.setTop (mkF m 167 #[.val (.int q1), .val (.int q2), .val (.int q3), .val (.int q4), .val (.int aa), .val (.int kk), .val (.double FP.dconst0), .second, .val (.double FP.dconst1), .second, .val (.ref b1), .val (.double (FP.l2d xx)), .second, .val (.double (FP.dmul (FP.l2d xx) FP.dconst1)), .second, .val (.int (1 : Int32)), .val (.ref b6), .val (.double r16), .second, .unset] [(.double (FP.l2d xx)), (.double r16)]))
    refine own_st (fun t k => XS.dcmpS X16.here hx rfl (hb hby at_167) rfl rfl k) ?_
    show own_Go p e below K (T16.setTop (mkF m 168 #[.val (.int q1), .val (.int q2), .val (.int q3), .val (.int q4), .val (.int aa), .val (.int kk), .val (.double FP.dconst0), .second, .val (.double FP.dconst1), .second, .val (.ref b1), .val (.double (FP.l2d xx)), .second, .val (.double (FP.dmul (FP.l2d xx) FP.dconst1)), .second, .val (.int (1 : Int32)), .val (.ref b6), .val (.double r16), .second, .unset] [(.int (cmpValue (FP.dcmp r16 (FP.l2d xx)) .g))]))
    refine own_st (fun t k => XS.ifNo X16.here hx rfl (hb hby at_168) rfl ((if0 _ _).trans (flt (own_ng (hr16 ▸ ((own_bnd (x := xx) (own_g rfl hpb)).1 (own_x0 hc153)).2) : ¬ ((0 : Int32) < (cmpValue (FP.dcmp r16 (FP.l2d xx)) .g)))).2.2.1) k) ?_
    show own_Go p e below K (T16.setTop (mkF m 171 #[.val (.int q1), .val (.int q2), .val (.int q3), .val (.int q4), .val (.int aa), .val (.int kk), .val (.double FP.dconst0), .second, .val (.double FP.dconst1), .second, .val (.ref b1), .val (.double (FP.l2d xx)), .second, .val (.double (FP.dmul (FP.l2d xx) FP.dconst1)), .second, .val (.int (1 : Int32)), .val (.ref b6), .val (.double r16), .second, .unset] []))
    refine own_st (fun t k => XS.iconst X16.here hx rfl (hb hby at_171) k) ?_
    show own_Go p e below K (T16.setTop (mkF m 172 #[.val (.int q1), .val (.int q2), .val (.int q3), .val (.int q4), .val (.int aa), .val (.int kk), .val (.double FP.dconst0), .second, .val (.double FP.dconst1), .second, .val (.ref b1), .val (.double (FP.l2d xx)), .second, .val (.double (FP.dmul (FP.l2d xx) FP.dconst1)), .second, .val (.int (1 : Int32)), .val (.ref b6), .val (.double r16), .second, .unset] [(.int (1 : Int32))]))
    refine own_st (fun t k => XS.goto X16.here hx rfl (pc0 := 172) (pc' := 176) rfl (hb hby at_172) (by decide) (by decide) k) ?_
    show own_Go p e below K (T16.setTop (mkF m 176 #[.val (.int q1), .val (.int q2), .val (.int q3), .val (.int q4), .val (.int aa), .val (.int kk), .val (.double FP.dconst0), .second, .val (.double FP.dconst1), .second, .val (.ref b1), .val (.double (FP.l2d xx)), .second, .val (.double (FP.dmul (FP.l2d xx) FP.dconst1)), .second, .val (.int (1 : Int32)), .val (.ref b6), .val (.double r16), .second, .unset] [(.int (1 : Int32))]))
    refine own_st (fun t k => XS.istore X16.here hx rfl (hb hby at_176) rfl (l' := #[.val (.int q1), .val (.int q2), .val (.int q3), .val (.int q4), .val (.int aa), .val (.int kk), .val (.double FP.dconst0), .second, .val (.double FP.dconst1), .second, .val (.ref b1), .val (.double (FP.l2d xx)), .second, .val (.double (FP.dmul (FP.l2d xx) FP.dconst1)), .second, .val (.int (1 : Int32)), .val (.ref b6), .val (.double r16), .second, .val (.int (1 : Int32))]) rfl k) ?_
    show own_Go p e below K (T16.setTop (mkF m 178 #[.val (.int q1), .val (.int q2), .val (.int q3), .val (.int q4), .val (.int aa), .val (.int kk), .val (.double FP.dconst0), .second, .val (.double FP.dconst1), .second, .val (.ref b1), .val (.double (FP.l2d xx)), .second, .val (.double (FP.dmul (FP.l2d xx) FP.dconst1)), .second, .val (.int (1 : Int32)), .val (.ref b6), .val (.double r16), .second, .val (.int (1 : Int32))] []))
    refine own_st (fun t k => XS.goto X16.here hx rfl (pc0 := 178) (pc' := 203) rfl (hb hby at_178) (by decide) (by decide) k) ?_
    show own_Go p e below K (T16.setTop (mkF m 203 #[.val (.int q1), .val (.int q2), .val (.int q3), .val (.int q4), .val (.int aa), .val (.int kk), .val (.double FP.dconst0), .second, .val (.double FP.dconst1), .second, .val (.ref b1), .val (.double (FP.l2d xx)), .second, .val (.double (FP.dmul (FP.l2d xx) FP.dconst1)), .second, .val (.int (1 : Int32)), .val (.ref b6), .val (.double r16), .second, .val (.int (1 : Int32))] []))
    refine own_st (fun t k => XS.iload X16.here hx rfl (hb hby at_203) rfl k) ?_
    show own_Go p e below K (T16.setTop (mkF m 205 #[.val (.int q1), .val (.int q2), .val (.int q3), .val (.int q4), .val (.int aa), .val (.int kk), .val (.double FP.dconst0), .second, .val (.double FP.dconst1), .second, .val (.ref b1), .val (.double (FP.l2d xx)), .second, .val (.double (FP.dmul (FP.l2d xx) FP.dconst1)), .second, .val (.int (1 : Int32)), .val (.ref b6), .val (.double r16), .second, .val (.int (1 : Int32))] [(.int (1 : Int32))]))
    refine own_st (fun t k => XS.ifNo X16.here hx rfl (hb hby at_205) rfl ((if0 _ _).trans (feq (by decide : ¬ ((1 : Int32) = (0 : Int32)))).1) k) ?_
    show own_Go p e below K (T16.setTop (mkF m 208 #[.val (.int q1), .val (.int q2), .val (.int q3), .val (.int q4), .val (.int aa), .val (.int kk), .val (.double FP.dconst0), .second, .val (.double FP.dconst1), .second, .val (.ref b1), .val (.double (FP.l2d xx)), .second, .val (.double (FP.dmul (FP.l2d xx) FP.dconst1)), .second, .val (.int (1 : Int32)), .val (.ref b6), .val (.double r16), .second, .val (.int (1 : Int32))] []))
    refine own_st (fun t k => XS.iload X16.here hx rfl (hb hby at_208) rfl k) ?_
    show own_Go p e below K (T16.setTop (mkF m 210 #[.val (.int q1), .val (.int q2), .val (.int q3), .val (.int q4), .val (.int aa), .val (.int kk), .val (.double FP.dconst0), .second, .val (.double FP.dconst1), .second, .val (.ref b1), .val (.double (FP.l2d xx)), .second, .val (.double (FP.dmul (FP.l2d xx) FP.dconst1)), .second, .val (.int (1 : Int32)), .val (.ref b6), .val (.double r16), .second, .val (.int (1 : Int32))] [(.int (1 : Int32))]))
    refine own_st (fun t k => XS.ifNo X16.here hx rfl (hb hby at_210) rfl ((if0 _ _).trans (feq (by decide : ¬ ((1 : Int32) = (0 : Int32)))).1) k) ?_
    show own_Go p e below K (T16.setTop (mkF m 213 #[.val (.int q1), .val (.int q2), .val (.int q3), .val (.int q4), .val (.int aa), .val (.int kk), .val (.double FP.dconst0), .second, .val (.double FP.dconst1), .second, .val (.ref b1), .val (.double (FP.l2d xx)), .second, .val (.double (FP.dmul (FP.l2d xx) FP.dconst1)), .second, .val (.int (1 : Int32)), .val (.ref b6), .val (.double r16), .second, .val (.int (1 : Int32))] []))
    refine own_st (fun t k => XS.iconst X16.here hx rfl (hb hby at_213) k) ?_
    show own_Go p e below K (T16.setTop (mkF m 214 #[.val (.int q1), .val (.int q2), .val (.int q3), .val (.int q4), .val (.int aa), .val (.int kk), .val (.double FP.dconst0), .second, .val (.double FP.dconst1), .second, .val (.ref b1), .val (.double (FP.l2d xx)), .second, .val (.double (FP.dmul (FP.l2d xx) FP.dconst1)), .second, .val (.int (1 : Int32)), .val (.ref b6), .val (.double r16), .second, .val (.int (1 : Int32))] [(.int (1 : Int32))]))
    refine own_st (fun t k => XS.goto X16.here hx rfl (pc0 := 214) (pc' := 218) rfl (hb hby at_214) (by decide) (by decide) k) ?_
    show own_Go p e below K (T16.setTop (mkF m 218 #[.val (.int q1), .val (.int q2), .val (.int q3), .val (.int q4), .val (.int aa), .val (.int kk), .val (.double FP.dconst0), .second, .val (.double FP.dconst1), .second, .val (.ref b1), .val (.double (FP.l2d xx)), .second, .val (.double (FP.dmul (FP.l2d xx) FP.dconst1)), .second, .val (.int (1 : Int32)), .val (.ref b6), .val (.double r16), .second, .val (.int (1 : Int32))] [(.int (1 : Int32))]))
    obtain ⟨fs, hr, hrun, hended, hW, hsame⟩ := X16.leave (v := some (.int (nar .boolean (1 : Int32)))) (fun h => by rw [Bd.returns] at h; cases h)
    refine ⟨_, retN X16 hx (t := .boolean) Bd.returns (by simp) (hb hby at_218) hr, fin _ _ _ hrun hended ?_ ⟨⟨_, rfl⟩, hW, hsame.mono (by decide) (by decide)⟩⟩
    show Q0 Z q1 q2 q3 q4 h0 n0 _ T16.heap _
    rw [e16]
    exact ⟨rfl, N16⟩
  refine own_st (fun t k => XS.ifYes X0.here hx rfl (pc0 := 13) (pc' := 25) rfl (hb hby at_13) rfl ((if0 _ _).trans (feq hc13).2) (by decide) (by decide) k) ?_
  show own_Go p e below K (s₁.setTop (mkF m 25 #[.val (.int q1), .val (.int q2), .val (.int q3), .val (.int q4), .val (.int aa), .val (.int kk), .unset, .unset, .unset, .unset, .unset, .unset, .unset, .unset, .unset, .unset, .unset, .unset, .unset, .unset] []))
  refine own_st (fun t k => XS.iload X0.here hx rfl (hb hby at_25) rfl k) ?_
  show own_Go p e below K (s₁.setTop (mkF m 27 #[.val (.int q1), .val (.int q2), .val (.int q3), .val (.int q4), .val (.int aa), .val (.int kk), .unset, .unset, .unset, .unset, .unset, .unset, .unset, .unset, .unset, .unset, .unset, .unset, .unset, .unset] [(.int kk)]))
  refine own_st (fun t k => XS.iconst X0.here hx rfl (hb hby at_27) k) ?_
  show own_Go p e below K (s₁.setTop (mkF m 28 #[.val (.int q1), .val (.int q2), .val (.int q3), .val (.int q4), .val (.int aa), .val (.int kk), .unset, .unset, .unset, .unset, .unset, .unset, .unset, .unset, .unset, .unset, .unset, .unset, .unset, .unset] [(.int (1 : Int32)), (.int kk)]))
  by_cases hc28 : kk = (1 : Int32)
  · refine own_st (fun t k => XS.icmpNo X0.here hx rfl (hb hby at_28) rfl (teq hc28).2 k) ?_
    show own_Go p e below K (s₁.setTop (mkF m 31 #[.val (.int q1), .val (.int q2), .val (.int q3), .val (.int q4), .val (.int aa), .val (.int kk), .unset, .unset, .unset, .unset, .unset, .unset, .unset, .unset, .unset, .unset, .unset, .unset, .unset, .unset] []))
    refine own_st (X0.ldc2DoubleC hx hown (mvT hZ (hw _ (List.mem_of_getElem? (i := 39) rfl))) (g := (mkF m 31 #[.val (.int q1), .val (.int q2), .val (.int q3), .val (.int q4), .val (.int aa), .val (.int kk), .unset, .unset, .unset, .unset, .unset, .unset, .unset, .unset, .unset, .unset, .unset, .unset, .unset, .unset] [])) rfl (hb hby at_31)) ?_
    show own_Go p e below K (s₁.setTop (mkF m 34 #[.val (.int q1), .val (.int q2), .val (.int q3), .val (.int q4), .val (.int aa), .val (.int kk), .unset, .unset, .unset, .unset, .unset, .unset, .unset, .unset, .unset, .unset, .unset, .unset, .unset, .unset] [(.double (4696837146684686336 : UInt64))]))
    refine own_st (fun t k => XS.dstore X0.here hx rfl (hb hby at_34) rfl (l' := #[.val (.int q1), .val (.int q2), .val (.int q3), .val (.int q4), .val (.int aa), .val (.int kk), .val (.double (4696837146684686336 : UInt64)), .second, .unset, .unset, .unset, .unset, .unset, .unset, .unset, .unset, .unset, .unset, .unset, .unset]) rfl k) ?_
    show own_Go p e below K (s₁.setTop (mkF m 36 #[.val (.int q1), .val (.int q2), .val (.int q3), .val (.int q4), .val (.int aa), .val (.int kk), .val (.double (4696837146684686336 : UInt64)), .second, .unset, .unset, .unset, .unset, .unset, .unset, .unset, .unset, .unset, .unset, .unset, .unset] []))
    refine own_st (X0.ldc2DoubleC hx hown (mvT hZ (hw _ (List.mem_of_getElem? (i := 40) rfl))) (g := (mkF m 36 #[.val (.int q1), .val (.int q2), .val (.int q3), .val (.int q4), .val (.int aa), .val (.int kk), .val (.double (4696837146684686336 : UInt64)), .second, .unset, .unset, .unset, .unset, .unset, .unset, .unset, .unset, .unset, .unset, .unset, .unset] [])) rfl (hb hby at_36)) ?_
    show own_Go p e below K (s₁.setTop (mkF m 39 #[.val (.int q1), .val (.int q2), .val (.int q3), .val (.int q4), .val (.int aa), .val (.int kk), .val (.double (4696837146684686336 : UInt64)), .second, .unset, .unset, .unset, .unset, .unset, .unset, .unset, .unset, .unset, .unset, .unset, .unset] [(.double (4602678819172646912 : UInt64))]))
    refine own_st (fun t k => XS.dstore X0.here hx rfl (hb hby at_39) rfl (l' := #[.val (.int q1), .val (.int q2), .val (.int q3), .val (.int q4), .val (.int aa), .val (.int kk), .val (.double (4696837146684686336 : UInt64)), .second, .val (.double (4602678819172646912 : UInt64)), .second, .unset, .unset, .unset, .unset, .unset, .unset, .unset, .unset, .unset, .unset]) rfl k) ?_
    show own_Go p e below K (s₁.setTop (mkF m 41 #[.val (.int q1), .val (.int q2), .val (.int q3), .val (.int q4), .val (.int aa), .val (.int kk), .val (.double (4696837146684686336 : UInt64)), .second, .val (.double (4602678819172646912 : UInt64)), .second, .unset, .unset, .unset, .unset, .unset, .unset, .unset, .unset, .unset, .unset] []))
    refine own_st (fun t k => XS.goto X0.here hx rfl (pc0 := 41) (pc' := 73) rfl (hb hby at_41) (by decide) (by decide) k) ?_
    show own_Go p e below K (s₁.setTop (mkF m 73 #[.val (.int q1), .val (.int q2), .val (.int q3), .val (.int q4), .val (.int aa), .val (.int kk), .val (.double (4696837146684686336 : UInt64)), .second, .val (.double (4602678819172646912 : UInt64)), .second, .unset, .unset, .unset, .unset, .unset, .unset, .unset, .unset, .unset, .unset] []))
    obtain ⟨T17, h17, X17, e17, E17, A17, D17, -, st17⟩ := newO X0 hx hZ hown (hw _ (List.mem_of_getElem? (i := 3) rfl)) (hw _ (List.mem_of_getElem? (i := 4) rfl)) (hw _ (List.mem_of_getElem? (i := 5) rfl)) e0 (g := (mkF m 73 #[.val (.int q1), .val (.int q2), .val (.int q3), .val (.int q4), .val (.int aa), .val (.int kk), .val (.double (4696837146684686336 : UInt64)), .second, .val (.double (4602678819172646912 : UInt64)), .second, .unset, .unset, .unset, .unset, .unset, .unset, .unset, .unset, .unset, .unset] [])) rfl (hb hby at_73) (by decide) (by decide)
    obtain ⟨b17, g17⟩ : ∃ z, z = h0.size := ⟨_, rfl⟩
    rw [← g17] at A17 D17 st17
    have g_b17 : n0 ≤ b17 := Nat.le_trans Z0 (Nat.le_of_eq g17.symm)
    have f18 : Fld Z h17 b17 "com/example/ms2rank/ms2rank/matching/MassTolerance" "ppm" "D" (defaultValue .double) := D17 (Or.inr (hw _ (List.mem_of_getElem? (i := 27) rfl))) (ty := .double) (by decide)
    have f19 : Fld Z h17 b17 "com/example/ms2rank/ms2rank/matching/MassTolerance" "absolute" "D" (defaultValue .double) := D17 (Or.inr (hw _ (List.mem_of_getElem? (i := 29) rfl))) (ty := .double) (by decide)
    have Z17 : n0 ≤ h17.size := Nat.le_trans Z0 E17.1
    refine own_st st17 ?_
    show own_Go p e below K (T17.setTop (mkF m 76 #[.val (.int q1), .val (.int q2), .val (.int q3), .val (.int q4), .val (.int aa), .val (.int kk), .val (.double (4696837146684686336 : UInt64)), .second, .val (.double (4602678819172646912 : UInt64)), .second, .unset, .unset, .unset, .unset, .unset, .unset, .unset, .unset, .unset, .unset] [(.ref b17)]))
    try clear st17
    refine own_st (fun t k => XS.dup X17.here hx rfl (hb hby at_76) rfl rfl k) ?_
    show own_Go p e below K (T17.setTop (mkF m 77 #[.val (.int q1), .val (.int q2), .val (.int q3), .val (.int q4), .val (.int aa), .val (.int kk), .val (.double (4696837146684686336 : UInt64)), .second, .val (.double (4602678819172646912 : UInt64)), .second, .unset, .unset, .unset, .unset, .unset, .unset, .unset, .unset, .unset, .unset] [(.ref b17), (.ref b17)]))
    refine own_st (fun t k => XS.dload X17.here hx rfl (hb hby at_77) rfl k) ?_
    show own_Go p e below K (T17.setTop (mkF m 79 #[.val (.int q1), .val (.int q2), .val (.int q3), .val (.int q4), .val (.int aa), .val (.int kk), .val (.double (4696837146684686336 : UInt64)), .second, .val (.double (4602678819172646912 : UInt64)), .second, .unset, .unset, .unset, .unset, .unset, .unset, .unset, .unset, .unset, .unset] [(.double (4696837146684686336 : UInt64)), (.ref b17), (.ref b17)]))
    refine own_st (fun t k => XS.iload X17.here hx rfl (hb hby at_79) rfl k) ?_
    show own_Go p e below K (T17.setTop (mkF m 81 #[.val (.int q1), .val (.int q2), .val (.int q3), .val (.int q4), .val (.int aa), .val (.int kk), .val (.double (4696837146684686336 : UInt64)), .second, .val (.double (4602678819172646912 : UInt64)), .second, .unset, .unset, .unset, .unset, .unset, .unset, .unset, .unset, .unset, .unset] [(.int aa), (.double (4696837146684686336 : UInt64)), (.ref b17), (.ref b17)]))
    refine own_st (fun t k => XS.i2dS X17.here hx rfl (hb hby at_81) rfl (i2d_w aa) k) ?_
    show own_Go p e below K (T17.setTop (mkF m 82 #[.val (.int q1), .val (.int q2), .val (.int q3), .val (.int q4), .val (.int aa), .val (.int kk), .val (.double (4696837146684686336 : UInt64)), .second, .val (.double (4602678819172646912 : UInt64)), .second, .unset, .unset, .unset, .unset, .unset, .unset, .unset, .unset, .unset, .unset] [(.double (FP.l2d (aa).toInt64)), (.double (4696837146684686336 : UInt64)), (.ref b17), (.ref b17)]))
    obtain ⟨_, _, ⟨T20, L20, k20, n20⟩, -, X20, ⟨Lc20, hQ20, l20, y20, z20⟩, st20⟩ := X17.specialBack hx (y := (⟨"com/example/ms2rank/ms2rank/matching/MassTolerance", "<init>", "(DD)V"⟩ : MethodName)) rfl hown (mvT hZ (hw _ (List.mem_of_getElem? (i := 6) rfl))) (mvT hZ (hw _ (List.mem_of_getElem? (i := 7) rfl))) (mvT hZ (hw _ (List.mem_of_getElem? (i := 8) rfl))) (by decide) (backOf (W := 1) (rm1 l Z a0 hw [] b17 (4696837146684686336 : UInt64) (FP.l2d (aa).toInt64) (1000000) ((aa).toInt64) h17 n0 Z17 g_b17 A17 f18 f19 own_p1 rfl ⟨by decide, by decide⟩ haa) hZ (hw _ (List.mem_of_getElem? (i := 8) rfl)) (hw _ (List.mem_of_getElem? (i := 5) rfl)) (by decide) (by decide)) (g := (mkF m 82 #[.val (.int q1), .val (.int q2), .val (.int q3), .val (.int q4), .val (.int aa), .val (.int kk), .val (.double (4696837146684686336 : UInt64)), .second, .val (.double (4602678819172646912 : UInt64)), .second, .unset, .unset, .unset, .unset, .unset, .unset, .unset, .unset, .unset, .unset] [(.double (FP.l2d (aa).toInt64)), (.double (4696837146684686336 : UInt64)), (.ref b17), (.ref b17)])) rfl (by rw [hml]; rfl) (Steps.refl _) (a := b17) (argsL := [(.double (4696837146684686336 : UInt64)), (.double (FP.l2d (aa).toInt64))]) (rest := [(.ref b17)]) (lenOf pd_0_0 rfl) rfl (by show 2 * 0 + _ ≤ _; exact Nat.le_of_eq rfl) (hb hby at_82) (fun _ _ => ⟨rfl, e17, (by decide : 1 + 0 ≤ _), (by decide : 2 + 0 ≤ _)⟩)
    dsimp only [Pt.U, Pt.locs, Pt.cells, Pt.slots] at X20 l20 y20 z20 st20 hQ20
    obtain ⟨rfl, N20q, Kq20, p20_0, p20_1, p20_2⟩ := hQ20
    have N20 : Fr n0 L20 := by rw [l20]; exact Fr.app N0 N20q
    clear l20
    have y20' : k20 = 1 := y20
    have z20' : n20 = 2 := z20
    clear y20 z20
    subst y20' z20'
    have Z20 : n0 ≤ T20.heap.size := Nat.le_trans Z17 Kq20.1
    refine own_tr st20 ?_
    show own_Go p e below K (T20.setTop (mkF m 85 #[.val (.int q1), .val (.int q2), .val (.int q3), .val (.int q4), .val (.int aa), .val (.int kk), .val (.double (4696837146684686336 : UInt64)), .second, .val (.double (4602678819172646912 : UInt64)), .second, .unset, .unset, .unset, .unset, .unset, .unset, .unset, .unset, .unset, .unset] [(.ref b17)]))
    try clear X17 e17 st20 N20q
    refine own_st (fun t k => XS.astore X20.here hx rfl (hb hby at_85) rfl rfl (l' := #[.val (.int q1), .val (.int q2), .val (.int q3), .val (.int q4), .val (.int aa), .val (.int kk), .val (.double (4696837146684686336 : UInt64)), .second, .val (.double (4602678819172646912 : UInt64)), .second, .val (.ref b17), .unset, .unset, .unset, .unset, .unset, .unset, .unset, .unset, .unset]) rfl k) ?_
    show own_Go p e below K (T20.setTop (mkF m 87 #[.val (.int q1), .val (.int q2), .val (.int q3), .val (.int q4), .val (.int aa), .val (.int kk), .val (.double (4696837146684686336 : UInt64)), .second, .val (.double (4602678819172646912 : UInt64)), .second, .val (.ref b17), .unset, .unset, .unset, .unset, .unset, .unset, .unset, .unset, .unset] []))
    refine own_st (fun t k => XS.iloadN X20.here hx rfl (hb hby at_87) rfl k) ?_
    show own_Go p e below K (T20.setTop (mkF m 88 #[.val (.int q1), .val (.int q2), .val (.int q3), .val (.int q4), .val (.int aa), .val (.int kk), .val (.double (4696837146684686336 : UInt64)), .second, .val (.double (4602678819172646912 : UInt64)), .second, .val (.ref b17), .unset, .unset, .unset, .unset, .unset, .unset, .unset, .unset, .unset] [(.int q1)]))
    refine own_st (fun t k => XS.i2l X20.here hx rfl (hb hby at_88) rfl k) ?_
    show own_Go p e below K (T20.setTop (mkF m 89 #[.val (.int q1), .val (.int q2), .val (.int q3), .val (.int q4), .val (.int aa), .val (.int kk), .val (.double (4696837146684686336 : UInt64)), .second, .val (.double (4602678819172646912 : UInt64)), .second, .val (.ref b17), .unset, .unset, .unset, .unset, .unset, .unset, .unset, .unset, .unset] [(.long (q1.toInt64))]))
    refine own_st (fun t k => XS.iload X20.here hx rfl (hb hby at_89) rfl k) ?_
    show own_Go p e below K (T20.setTop (mkF m 91 #[.val (.int q1), .val (.int q2), .val (.int q3), .val (.int q4), .val (.int aa), .val (.int kk), .val (.double (4696837146684686336 : UInt64)), .second, .val (.double (4602678819172646912 : UInt64)), .second, .val (.ref b17), .unset, .unset, .unset, .unset, .unset, .unset, .unset, .unset, .unset] [(.int aa), (.long (q1.toInt64))]))
    refine own_st (fun t k => XS.i2l X20.here hx rfl (hb hby at_91) rfl k) ?_
    show own_Go p e below K (T20.setTop (mkF m 92 #[.val (.int q1), .val (.int q2), .val (.int q3), .val (.int q4), .val (.int aa), .val (.int kk), .val (.double (4696837146684686336 : UInt64)), .second, .val (.double (4602678819172646912 : UInt64)), .second, .val (.ref b17), .unset, .unset, .unset, .unset, .unset, .unset, .unset, .unset, .unset] [(.long (aa.toInt64)), (.long (q1.toInt64))]))
    refine own_st (fun t k => XS.lsub X20.here hx rfl (hb hby at_92) rfl k) ?_
    show own_Go p e below K (T20.setTop (mkF m 93 #[.val (.int q1), .val (.int q2), .val (.int q3), .val (.int q4), .val (.int aa), .val (.int kk), .val (.double (4696837146684686336 : UInt64)), .second, .val (.double (4602678819172646912 : UInt64)), .second, .val (.ref b17), .unset, .unset, .unset, .unset, .unset, .unset, .unset, .unset, .unset] [(.long ((q1.toInt64) - (aa.toInt64)))]))
    generalize hxx : ((q1.toInt64) - (aa.toInt64)) = xx
    show own_Go p e below K (T20.setTop (mkF m 93 #[.val (.int q1), .val (.int q2), .val (.int q3), .val (.int q4), .val (.int aa), .val (.int kk), .val (.double (4696837146684686336 : UInt64)), .second, .val (.double (4602678819172646912 : UInt64)), .second, .val (.ref b17), .unset, .unset, .unset, .unset, .unset, .unset, .unset, .unset, .unset] [(.long xx)]))
    have hxb := own_xb hxx haa
    refine own_st (fun t k => XS.l2dS X20.here hx rfl (hb hby at_93) rfl rfl k) ?_
    show own_Go p e below K (T20.setTop (mkF m 94 #[.val (.int q1), .val (.int q2), .val (.int q3), .val (.int q4), .val (.int aa), .val (.int kk), .val (.double (4696837146684686336 : UInt64)), .second, .val (.double (4602678819172646912 : UInt64)), .second, .val (.ref b17), .unset, .unset, .unset, .unset, .unset, .unset, .unset, .unset, .unset] [(.double (FP.l2d xx))]))
    refine own_st (fun t k => XS.dstore X20.here hx rfl (hb hby at_94) rfl (l' := #[.val (.int q1), .val (.int q2), .val (.int q3), .val (.int q4), .val (.int aa), .val (.int kk), .val (.double (4696837146684686336 : UInt64)), .second, .val (.double (4602678819172646912 : UInt64)), .second, .val (.ref b17), .val (.double (FP.l2d xx)), .second, .unset, .unset, .unset, .unset, .unset, .unset, .unset]) rfl k) ?_
    show own_Go p e below K (T20.setTop (mkF m 96 #[.val (.int q1), .val (.int q2), .val (.int q3), .val (.int q4), .val (.int aa), .val (.int kk), .val (.double (4696837146684686336 : UInt64)), .second, .val (.double (4602678819172646912 : UInt64)), .second, .val (.ref b17), .val (.double (FP.l2d xx)), .second, .unset, .unset, .unset, .unset, .unset, .unset, .unset] []))
    refine own_st (fun t k => XS.dload X20.here hx rfl (hb hby at_96) rfl k) ?_
    show own_Go p e below K (T20.setTop (mkF m 98 #[.val (.int q1), .val (.int q2), .val (.int q3), .val (.int q4), .val (.int aa), .val (.int kk), .val (.double (4696837146684686336 : UInt64)), .second, .val (.double (4602678819172646912 : UInt64)), .second, .val (.ref b17), .val (.double (FP.l2d xx)), .second, .unset, .unset, .unset, .unset, .unset, .unset, .unset] [(.double (FP.l2d xx))]))
    refine own_st (fun t k => XS.dload X20.here hx rfl (hb hby at_98) rfl k) ?_
    show own_Go p e below K (T20.setTop (mkF m 100 #[.val (.int q1), .val (.int q2), .val (.int q3), .val (.int q4), .val (.int aa), .val (.int kk), .val (.double (4696837146684686336 : UInt64)), .second, .val (.double (4602678819172646912 : UInt64)), .second, .val (.ref b17), .val (.double (FP.l2d xx)), .second, .unset, .unset, .unset, .unset, .unset, .unset, .unset] [(.double (4602678819172646912 : UInt64)), (.double (FP.l2d xx))]))
    refine own_st (fun t k => XS.dmulS X20.here hx rfl (hb hby at_100) rfl (own_sc own_h1) rfl k) ?_
    show own_Go p e below K (T20.setTop (mkF m 101 #[.val (.int q1), .val (.int q2), .val (.int q3), .val (.int q4), .val (.int aa), .val (.int kk), .val (.double (4696837146684686336 : UInt64)), .second, .val (.double (4602678819172646912 : UInt64)), .second, .val (.ref b17), .val (.double (FP.l2d xx)), .second, .unset, .unset, .unset, .unset, .unset, .unset, .unset] [(.double (FP.dmul (FP.l2d xx) (4602678819172646912 : UInt64)))]))
    refine own_st (fun t k => XS.dstore X20.here hx rfl (hb hby at_101) rfl (l' := #[.val (.int q1), .val (.int q2), .val (.int q3), .val (.int q4), .val (.int aa), .val (.int kk), .val (.double (4696837146684686336 : UInt64)), .second, .val (.double (4602678819172646912 : UInt64)), .second, .val (.ref b17), .val (.double (FP.l2d xx)), .second, .val (.double (FP.dmul (FP.l2d xx) (4602678819172646912 : UInt64))), .second, .unset, .unset, .unset, .unset, .unset]) rfl k) ?_
    show own_Go p e below K (T20.setTop (mkF m 103 #[.val (.int q1), .val (.int q2), .val (.int q3), .val (.int q4), .val (.int aa), .val (.int kk), .val (.double (4696837146684686336 : UInt64)), .second, .val (.double (4602678819172646912 : UInt64)), .second, .val (.ref b17), .val (.double (FP.l2d xx)), .second, .val (.double (FP.dmul (FP.l2d xx) (4602678819172646912 : UInt64))), .second, .unset, .unset, .unset, .unset, .unset] []))
    refine own_st (fun t k => XS.aload X20.here hx rfl (hb hby at_103) rfl rfl k) ?_
    show own_Go p e below K (T20.setTop (mkF m 105 #[.val (.int q1), .val (.int q2), .val (.int q3), .val (.int q4), .val (.int aa), .val (.int kk), .val (.double (4696837146684686336 : UInt64)), .second, .val (.double (4602678819172646912 : UInt64)), .second, .val (.ref b17), .val (.double (FP.l2d xx)), .second, .val (.double (FP.dmul (FP.l2d xx) (4602678819172646912 : UInt64))), .second, .unset, .unset, .unset, .unset, .unset] [(.ref b17)]))
    refine own_st (fun t k => XS.iloadN X20.here hx rfl (hb hby at_105) rfl k) ?_
    show own_Go p e below K (T20.setTop (mkF m 106 #[.val (.int q1), .val (.int q2), .val (.int q3), .val (.int q4), .val (.int aa), .val (.int kk), .val (.double (4696837146684686336 : UInt64)), .second, .val (.double (4602678819172646912 : UInt64)), .second, .val (.ref b17), .val (.double (FP.l2d xx)), .second, .val (.double (FP.dmul (FP.l2d xx) (4602678819172646912 : UInt64))), .second, .unset, .unset, .unset, .unset, .unset] [(.int q1), (.ref b17)]))
    refine own_st (fun t k => XS.i2dS X20.here hx rfl (hb hby at_106) rfl (i2d_w q1) k) ?_
    show own_Go p e below K (T20.setTop (mkF m 107 #[.val (.int q1), .val (.int q2), .val (.int q3), .val (.int q4), .val (.int aa), .val (.int kk), .val (.double (4696837146684686336 : UInt64)), .second, .val (.double (4602678819172646912 : UInt64)), .second, .val (.ref b17), .val (.double (FP.l2d xx)), .second, .val (.double (FP.dmul (FP.l2d xx) (4602678819172646912 : UInt64))), .second, .unset, .unset, .unset, .unset, .unset] [(.double (FP.l2d (q1).toInt64)), (.ref b17)]))
    obtain ⟨cq21, kq21, qv21a, qv21b, qv21c⟩ := isOf hZ rfl p20_0
    obtain ⟨_, _, ⟨T21, L21, k21, n21⟩, -, X21, ⟨Lc21, hQ21, l21, y21, z21⟩, st21⟩ := X20.virtualBack hx (y := (⟨"com/example/ms2rank/ms2rank/matching/MassTolerance", "lowestMatch", "(D)D"⟩ : MethodName)) (z := (⟨"com/example/ms2rank/ms2rank/matching/MassTolerance", "lowestMatch", "(D)D"⟩ : MethodName)) hown (mvT hZ (hw _ (List.mem_of_getElem? (i := 30) rfl))) (mvT hZ (hw _ (List.mem_of_getElem? (i := 31) rfl))) (notFace_of_selects (args := #[]) (mvT hZ (hw _ (List.mem_of_getElem? (i := 33) rfl)))) (mvT hZ (hw _ (List.mem_of_getElem? (i := 33) rfl))) (mvT hZ (hw _ (List.mem_of_getElem? (i := 32) rfl))) (by decide) (backOf (W := 0) (rm6 l Z a0 hw [] b17 (FP.l2d (q1).toInt64) ((FP.l2d (aa).toInt64)) ((4696837146684686336 : UInt64)) (xx) T20.heap n0 Z20 p20_2 p20_1 (own_ds hxx) (own_m2 own_p1 ⟨by decide, by decide⟩) (own_m3 own_p1 ⟨by decide, by decide⟩) (own_m4 xx own_p1 ⟨by decide, by decide⟩)) hZ (hw _ (List.mem_of_getElem? (i := 34) rfl)) (hw _ (List.mem_of_getElem? (i := 5) rfl)) (by decide) (by decide)) qv21a qv21c (g := (mkF m 107 #[.val (.int q1), .val (.int q2), .val (.int q3), .val (.int q4), .val (.int aa), .val (.int kk), .val (.double (4696837146684686336 : UInt64)), .second, .val (.double (4602678819172646912 : UInt64)), .second, .val (.ref b17), .val (.double (FP.l2d xx)), .second, .val (.double (FP.dmul (FP.l2d xx) (4602678819172646912 : UInt64))), .second, .unset, .unset, .unset, .unset, .unset] [(.double (FP.l2d (q1).toInt64)), (.ref b17)])) rfl (by rw [hml]; rfl) (Steps.refl _) (argsL := [(.double (FP.l2d (q1).toInt64))]) (rest := []) (lenOf pd_0_3 rfl) rfl (by show 2 * 0 + _ ≤ _; exact Nat.le_of_eq rfl) (hb hby at_107) (fun _ _ => ⟨rfl, rfl, (by decide : 1 + 0 ≤ _), (by decide : 2 + 0 ≤ _)⟩)
    dsimp only [Pt.U, Pt.locs, Pt.cells, Pt.slots] at X21 l21 y21 z21 st21 hQ21
    obtain ⟨r21, rfl, hr21, N21q, e21⟩ := hQ21
    have N21 : Fr n0 L21 := by rw [l21]; exact Fr.app N20 N21q
    clear l21
    have y21' : k21 = 1 := y21
    have z21' : n21 = 2 := z21
    clear y21 z21
    subst y21' z21'
    refine own_tr st21 ?_
    show own_Go p e below K (T21.setTop (mkF m 110 #[.val (.int q1), .val (.int q2), .val (.int q3), .val (.int q4), .val (.int aa), .val (.int kk), .val (.double (4696837146684686336 : UInt64)), .second, .val (.double (4602678819172646912 : UInt64)), .second, .val (.ref b17), .val (.double (FP.l2d xx)), .second, .val (.double (FP.dmul (FP.l2d xx) (4602678819172646912 : UInt64))), .second, .unset, .unset, .unset, .unset, .unset] [(.double r21)]))
    try clear X20 st21 N20 N21q
    refine own_st (fun t k => XS.dload X21.here hx rfl (hb hby at_110) rfl k) ?_
    show own_Go p e below K (T21.setTop (mkF m 112 #[.val (.int q1), .val (.int q2), .val (.int q3), .val (.int q4), .val (.int aa), .val (.int kk), .val (.double (4696837146684686336 : UInt64)), .second, .val (.double (4602678819172646912 : UInt64)), .second, .val (.ref b17), .val (.double (FP.l2d xx)), .second, .val (.double (FP.dmul (FP.l2d xx) (4602678819172646912 : UInt64))), .second, .unset, .unset, .unset, .unset, .unset] [(.double (FP.dmul (FP.l2d xx) (4602678819172646912 : UInt64))), (.double r21)]))
    refine own_st (fun t k => XS.dcmpS X21.here hx rfl (hb hby at_112) rfl (dcmpV_eq (own_ex1 hr21) (own_ex1 hr21 ▸ own_sc own_h1) .l) k) ?_
    show own_Go p e below K (T21.setTop (mkF m 113 #[.val (.int q1), .val (.int q2), .val (.int q3), .val (.int q4), .val (.int aa), .val (.int kk), .val (.double (4696837146684686336 : UInt64)), .second, .val (.double (4602678819172646912 : UInt64)), .second, .val (.ref b17), .val (.double (FP.l2d xx)), .second, .val (.double (FP.dmul (FP.l2d xx) (4602678819172646912 : UInt64))), .second, .unset, .unset, .unset, .unset, .unset] [(.int (0 : Int32))]))
    refine own_st (fun t k => XS.ifNo X21.here hx rfl (hb hby at_113) rfl ((if0 _ _).trans (teq (by decide : (0 : Int32) = (0 : Int32))).2) k) ?_
    show own_Go p e below K (T21.setTop (mkF m 116 #[.val (.int q1), .val (.int q2), .val (.int q3), .val (.int q4), .val (.int aa), .val (.int kk), .val (.double (4696837146684686336 : UInt64)), .second, .val (.double (4602678819172646912 : UInt64)), .second, .val (.ref b17), .val (.double (FP.l2d xx)), .second, .val (.double (FP.dmul (FP.l2d xx) (4602678819172646912 : UInt64))), .second, .unset, .unset, .unset, .unset, .unset] []))
    refine own_st (fun t k => XS.iconst X21.here hx rfl (hb hby at_116) k) ?_
    show own_Go p e below K (T21.setTop (mkF m 117 #[.val (.int q1), .val (.int q2), .val (.int q3), .val (.int q4), .val (.int aa), .val (.int kk), .val (.double (4696837146684686336 : UInt64)), .second, .val (.double (4602678819172646912 : UInt64)), .second, .val (.ref b17), .val (.double (FP.l2d xx)), .second, .val (.double (FP.dmul (FP.l2d xx) (4602678819172646912 : UInt64))), .second, .unset, .unset, .unset, .unset, .unset] [(.int (1 : Int32))]))
    refine own_st (fun t k => XS.goto X21.here hx rfl (pc0 := 117) (pc' := 121) rfl (hb hby at_117) (by decide) (by decide) k) ?_
    show own_Go p e below K (T21.setTop (mkF m 121 #[.val (.int q1), .val (.int q2), .val (.int q3), .val (.int q4), .val (.int aa), .val (.int kk), .val (.double (4696837146684686336 : UInt64)), .second, .val (.double (4602678819172646912 : UInt64)), .second, .val (.ref b17), .val (.double (FP.l2d xx)), .second, .val (.double (FP.dmul (FP.l2d xx) (4602678819172646912 : UInt64))), .second, .unset, .unset, .unset, .unset, .unset] [(.int (1 : Int32))]))
    refine own_st (fun t k => XS.istore X21.here hx rfl (hb hby at_121) rfl (l' := #[.val (.int q1), .val (.int q2), .val (.int q3), .val (.int q4), .val (.int aa), .val (.int kk), .val (.double (4696837146684686336 : UInt64)), .second, .val (.double (4602678819172646912 : UInt64)), .second, .val (.ref b17), .val (.double (FP.l2d xx)), .second, .val (.double (FP.dmul (FP.l2d xx) (4602678819172646912 : UInt64))), .second, .val (.int (1 : Int32)), .unset, .unset, .unset, .unset]) rfl k) ?_
    show own_Go p e below K (T21.setTop (mkF m 123 #[.val (.int q1), .val (.int q2), .val (.int q3), .val (.int q4), .val (.int aa), .val (.int kk), .val (.double (4696837146684686336 : UInt64)), .second, .val (.double (4602678819172646912 : UInt64)), .second, .val (.ref b17), .val (.double (FP.l2d xx)), .second, .val (.double (FP.dmul (FP.l2d xx) (4602678819172646912 : UInt64))), .second, .val (.int (1 : Int32)), .unset, .unset, .unset, .unset] []))
    obtain ⟨T22, h22, X22, e22, E22, A22, D22, -, st22⟩ := newO X21 hx hZ hown (hw _ (List.mem_of_getElem? (i := 3) rfl)) (hw _ (List.mem_of_getElem? (i := 4) rfl)) (hw _ (List.mem_of_getElem? (i := 5) rfl)) e21 (g := (mkF m 123 #[.val (.int q1), .val (.int q2), .val (.int q3), .val (.int q4), .val (.int aa), .val (.int kk), .val (.double (4696837146684686336 : UInt64)), .second, .val (.double (4602678819172646912 : UInt64)), .second, .val (.ref b17), .val (.double (FP.l2d xx)), .second, .val (.double (FP.dmul (FP.l2d xx) (4602678819172646912 : UInt64))), .second, .val (.int (1 : Int32)), .unset, .unset, .unset, .unset] [])) rfl (hb hby at_123) (by decide) (by decide)
    obtain ⟨b22, g22⟩ : ∃ z, z = T20.heap.size := ⟨_, rfl⟩
    rw [← g22] at A22 D22 st22
    have ne_b17_b22 : b17 ≠ b22 := Nat.ne_of_lt (Nat.lt_of_lt_of_le p20_0.lt (Nat.le_of_eq g22.symm))
    have g_b22 : n0 ≤ b22 := Nat.le_trans Z20 (Nat.le_of_eq g22.symm)
    have f23 : Exa Z h22 b17 "com/example/ms2rank/ms2rank/matching/MassTolerance" := p20_0.ext E22
    have f24 : Fld Z h22 b17 "com/example/ms2rank/ms2rank/matching/MassTolerance" "ppm" "D" (.double (4696837146684686336 : UInt64)) := p20_1.ext E22
    have f25 : Fld Z h22 b17 "com/example/ms2rank/ms2rank/matching/MassTolerance" "absolute" "D" (.double (FP.l2d (aa).toInt64)) := p20_2.ext E22
    have f26 : Fld Z h22 b22 "com/example/ms2rank/ms2rank/matching/MassTolerance" "ppm" "D" (defaultValue .double) := D22 (Or.inr (hw _ (List.mem_of_getElem? (i := 27) rfl))) (ty := .double) (by decide)
    have f27 : Fld Z h22 b22 "com/example/ms2rank/ms2rank/matching/MassTolerance" "absolute" "D" (defaultValue .double) := D22 (Or.inr (hw _ (List.mem_of_getElem? (i := 29) rfl))) (ty := .double) (by decide)
    have Z22 : n0 ≤ h22.size := Nat.le_trans Z20 E22.1
    refine own_st st22 ?_
    show own_Go p e below K (T22.setTop (mkF m 126 #[.val (.int q1), .val (.int q2), .val (.int q3), .val (.int q4), .val (.int aa), .val (.int kk), .val (.double (4696837146684686336 : UInt64)), .second, .val (.double (4602678819172646912 : UInt64)), .second, .val (.ref b17), .val (.double (FP.l2d xx)), .second, .val (.double (FP.dmul (FP.l2d xx) (4602678819172646912 : UInt64))), .second, .val (.int (1 : Int32)), .unset, .unset, .unset, .unset] [(.ref b22)]))
    try clear X21 e21 st22 p20_0 p20_1 p20_2
    refine own_st (fun t k => XS.dup X22.here hx rfl (hb hby at_126) rfl rfl k) ?_
    show own_Go p e below K (T22.setTop (mkF m 127 #[.val (.int q1), .val (.int q2), .val (.int q3), .val (.int q4), .val (.int aa), .val (.int kk), .val (.double (4696837146684686336 : UInt64)), .second, .val (.double (4602678819172646912 : UInt64)), .second, .val (.ref b17), .val (.double (FP.l2d xx)), .second, .val (.double (FP.dmul (FP.l2d xx) (4602678819172646912 : UInt64))), .second, .val (.int (1 : Int32)), .unset, .unset, .unset, .unset] [(.ref b22), (.ref b22)]))
    refine own_st (fun t k => XS.iloadN X22.here hx rfl (hb hby at_127) rfl k) ?_
    show own_Go p e below K (T22.setTop (mkF m 128 #[.val (.int q1), .val (.int q2), .val (.int q3), .val (.int q4), .val (.int aa), .val (.int kk), .val (.double (4696837146684686336 : UInt64)), .second, .val (.double (4602678819172646912 : UInt64)), .second, .val (.ref b17), .val (.double (FP.l2d xx)), .second, .val (.double (FP.dmul (FP.l2d xx) (4602678819172646912 : UInt64))), .second, .val (.int (1 : Int32)), .unset, .unset, .unset, .unset] [(.int q4), (.ref b22), (.ref b22)]))
    refine own_st (X22.ldcInt hx hown (mvT hZ (hw _ (List.mem_of_getElem? (i := 36) rfl))) (g := (mkF m 128 #[.val (.int q1), .val (.int q2), .val (.int q3), .val (.int q4), .val (.int aa), .val (.int kk), .val (.double (4696837146684686336 : UInt64)), .second, .val (.double (4602678819172646912 : UInt64)), .second, .val (.ref b17), .val (.double (FP.l2d xx)), .second, .val (.double (FP.dmul (FP.l2d xx) (4602678819172646912 : UInt64))), .second, .val (.int (1 : Int32)), .unset, .unset, .unset, .unset] [(.int q4), (.ref b22), (.ref b22)])) rfl (hb hby at_128)) ?_
    show own_Go p e below K (T22.setTop (mkF m 130 #[.val (.int q1), .val (.int q2), .val (.int q3), .val (.int q4), .val (.int aa), .val (.int kk), .val (.double (4696837146684686336 : UInt64)), .second, .val (.double (4602678819172646912 : UInt64)), .second, .val (.ref b17), .val (.double (FP.l2d xx)), .second, .val (.double (FP.dmul (FP.l2d xx) (4602678819172646912 : UInt64))), .second, .val (.int (1 : Int32)), .unset, .unset, .unset, .unset] [(.int (1048575 : Int32)), (.int q4), (.ref b22), (.ref b22)]))
    refine own_st (fun t k => XS.iand X22.here hx rfl (hb hby at_130) rfl k) ?_
    show own_Go p e below K (T22.setTop (mkF m 131 #[.val (.int q1), .val (.int q2), .val (.int q3), .val (.int q4), .val (.int aa), .val (.int kk), .val (.double (4696837146684686336 : UInt64)), .second, .val (.double (4602678819172646912 : UInt64)), .second, .val (.ref b17), .val (.double (FP.l2d xx)), .second, .val (.double (FP.dmul (FP.l2d xx) (4602678819172646912 : UInt64))), .second, .val (.int (1 : Int32)), .unset, .unset, .unset, .unset] [(.int (q4 &&& (1048575 : Int32))), (.ref b22), (.ref b22)]))
    generalize hpp : (q4 &&& (1048575 : Int32)) = pp
    show own_Go p e below K (T22.setTop (mkF m 131 #[.val (.int q1), .val (.int q2), .val (.int q3), .val (.int q4), .val (.int aa), .val (.int kk), .val (.double (4696837146684686336 : UInt64)), .second, .val (.double (4602678819172646912 : UInt64)), .second, .val (.ref b17), .val (.double (FP.l2d xx)), .second, .val (.double (FP.dmul (FP.l2d xx) (4602678819172646912 : UInt64))), .second, .val (.int (1 : Int32)), .unset, .unset, .unset, .unset] [(.int pp), (.ref b22), (.ref b22)]))
    have hpb := own_pp hpp
    refine own_st (fun t k => XS.i2dS X22.here hx rfl (hb hby at_131) rfl (i2d_w pp) k) ?_
    show own_Go p e below K (T22.setTop (mkF m 132 #[.val (.int q1), .val (.int q2), .val (.int q3), .val (.int q4), .val (.int aa), .val (.int kk), .val (.double (4696837146684686336 : UInt64)), .second, .val (.double (4602678819172646912 : UInt64)), .second, .val (.ref b17), .val (.double (FP.l2d xx)), .second, .val (.double (FP.dmul (FP.l2d xx) (4602678819172646912 : UInt64))), .second, .val (.int (1 : Int32)), .unset, .unset, .unset, .unset] [(.double (FP.l2d (pp).toInt64)), (.ref b22), (.ref b22)]))
    refine own_st (fun t k => XS.iload X22.here hx rfl (hb hby at_132) rfl k) ?_
    show own_Go p e below K (T22.setTop (mkF m 134 #[.val (.int q1), .val (.int q2), .val (.int q3), .val (.int q4), .val (.int aa), .val (.int kk), .val (.double (4696837146684686336 : UInt64)), .second, .val (.double (4602678819172646912 : UInt64)), .second, .val (.ref b17), .val (.double (FP.l2d xx)), .second, .val (.double (FP.dmul (FP.l2d xx) (4602678819172646912 : UInt64))), .second, .val (.int (1 : Int32)), .unset, .unset, .unset, .unset] [(.int aa), (.double (FP.l2d (pp).toInt64)), (.ref b22), (.ref b22)]))
    refine own_st (fun t k => XS.i2dS X22.here hx rfl (hb hby at_134) rfl (i2d_w aa) k) ?_
    show own_Go p e below K (T22.setTop (mkF m 135 #[.val (.int q1), .val (.int q2), .val (.int q3), .val (.int q4), .val (.int aa), .val (.int kk), .val (.double (4696837146684686336 : UInt64)), .second, .val (.double (4602678819172646912 : UInt64)), .second, .val (.ref b17), .val (.double (FP.l2d xx)), .second, .val (.double (FP.dmul (FP.l2d xx) (4602678819172646912 : UInt64))), .second, .val (.int (1 : Int32)), .unset, .unset, .unset, .unset] [(.double (FP.l2d (aa).toInt64)), (.double (FP.l2d (pp).toInt64)), (.ref b22), (.ref b22)]))
    obtain ⟨_, _, ⟨T28, L28, k28, n28⟩, -, X28, ⟨Lc28, hQ28, l28, y28, z28⟩, st28⟩ := X22.specialBack hx (y := (⟨"com/example/ms2rank/ms2rank/matching/MassTolerance", "<init>", "(DD)V"⟩ : MethodName)) rfl hown (mvT hZ (hw _ (List.mem_of_getElem? (i := 6) rfl))) (mvT hZ (hw _ (List.mem_of_getElem? (i := 7) rfl))) (mvT hZ (hw _ (List.mem_of_getElem? (i := 8) rfl))) (by decide) (backOf (W := 1) (rm1 l Z a0 hw [] b22 (FP.l2d (pp).toInt64) (FP.l2d (aa).toInt64) ((pp).toInt64) ((aa).toInt64) h22 n0 Z22 g_b22 A22 f26 f27 rfl rfl hpb haa) hZ (hw _ (List.mem_of_getElem? (i := 8) rfl)) (hw _ (List.mem_of_getElem? (i := 5) rfl)) (by decide) (by decide)) (g := (mkF m 135 #[.val (.int q1), .val (.int q2), .val (.int q3), .val (.int q4), .val (.int aa), .val (.int kk), .val (.double (4696837146684686336 : UInt64)), .second, .val (.double (4602678819172646912 : UInt64)), .second, .val (.ref b17), .val (.double (FP.l2d xx)), .second, .val (.double (FP.dmul (FP.l2d xx) (4602678819172646912 : UInt64))), .second, .val (.int (1 : Int32)), .unset, .unset, .unset, .unset] [(.double (FP.l2d (aa).toInt64)), (.double (FP.l2d (pp).toInt64)), (.ref b22), (.ref b22)])) rfl (by rw [hml]; rfl) (Steps.refl _) (a := b22) (argsL := [(.double (FP.l2d (pp).toInt64)), (.double (FP.l2d (aa).toInt64))]) (rest := [(.ref b22)]) (lenOf pd_0_0 rfl) rfl (by show 2 * 0 + _ ≤ _; exact Nat.le_of_eq rfl) (hb hby at_135) (fun _ _ => ⟨rfl, e22, (by decide : 2 + 0 ≤ _), (by decide : 4 + 0 ≤ _)⟩)
    dsimp only [Pt.U, Pt.locs, Pt.cells, Pt.slots] at X28 l28 y28 z28 st28 hQ28
    obtain ⟨rfl, N28q, Kq28, p28_0, p28_1, p28_2⟩ := hQ28
    have N28 : Fr n0 L28 := by rw [l28]; exact Fr.app N21 N28q
    clear l28
    have y28' : k28 = 2 := y28
    have z28' : n28 = 4 := z28
    clear y28 z28
    subst y28' z28'
    have f29 : Exa Z T28.heap b17 "com/example/ms2rank/ms2rank/matching/MassTolerance" := f23.keep Kq28
    have f30 : Fld Z T28.heap b17 "com/example/ms2rank/ms2rank/matching/MassTolerance" "ppm" "D" (.double (4696837146684686336 : UInt64)) := f24.keep Kq28 (ninS ne_b17_b22 nin0)
    have f31 : Fld Z T28.heap b17 "com/example/ms2rank/ms2rank/matching/MassTolerance" "absolute" "D" (.double (FP.l2d (aa).toInt64)) := f25.keep Kq28 (ninS ne_b17_b22 nin0)
    have Z28 : n0 ≤ T28.heap.size := Nat.le_trans Z22 Kq28.1
    refine own_tr st28 ?_
    show own_Go p e below K (T28.setTop (mkF m 138 #[.val (.int q1), .val (.int q2), .val (.int q3), .val (.int q4), .val (.int aa), .val (.int kk), .val (.double (4696837146684686336 : UInt64)), .second, .val (.double (4602678819172646912 : UInt64)), .second, .val (.ref b17), .val (.double (FP.l2d xx)), .second, .val (.double (FP.dmul (FP.l2d xx) (4602678819172646912 : UInt64))), .second, .val (.int (1 : Int32)), .unset, .unset, .unset, .unset] [(.ref b22)]))
    try clear X22 e22 st28 N21 N28q f23 f24 f25
    refine own_st (fun t k => XS.astore X28.here hx rfl (hb hby at_138) rfl rfl (l' := #[.val (.int q1), .val (.int q2), .val (.int q3), .val (.int q4), .val (.int aa), .val (.int kk), .val (.double (4696837146684686336 : UInt64)), .second, .val (.double (4602678819172646912 : UInt64)), .second, .val (.ref b17), .val (.double (FP.l2d xx)), .second, .val (.double (FP.dmul (FP.l2d xx) (4602678819172646912 : UInt64))), .second, .val (.int (1 : Int32)), .val (.ref b22), .unset, .unset, .unset]) rfl k) ?_
    show own_Go p e below K (T28.setTop (mkF m 140 #[.val (.int q1), .val (.int q2), .val (.int q3), .val (.int q4), .val (.int aa), .val (.int kk), .val (.double (4696837146684686336 : UInt64)), .second, .val (.double (4602678819172646912 : UInt64)), .second, .val (.ref b17), .val (.double (FP.l2d xx)), .second, .val (.double (FP.dmul (FP.l2d xx) (4602678819172646912 : UInt64))), .second, .val (.int (1 : Int32)), .val (.ref b22), .unset, .unset, .unset] []))
    refine own_st (fun t k => XS.aload X28.here hx rfl (hb hby at_140) rfl rfl k) ?_
    show own_Go p e below K (T28.setTop (mkF m 142 #[.val (.int q1), .val (.int q2), .val (.int q3), .val (.int q4), .val (.int aa), .val (.int kk), .val (.double (4696837146684686336 : UInt64)), .second, .val (.double (4602678819172646912 : UInt64)), .second, .val (.ref b17), .val (.double (FP.l2d xx)), .second, .val (.double (FP.dmul (FP.l2d xx) (4602678819172646912 : UInt64))), .second, .val (.int (1 : Int32)), .val (.ref b22), .unset, .unset, .unset] [(.ref b22)]))
    refine own_st (fun t k => XS.iloadN X28.here hx rfl (hb hby at_142) rfl k) ?_
    show own_Go p e below K (T28.setTop (mkF m 143 #[.val (.int q1), .val (.int q2), .val (.int q3), .val (.int q4), .val (.int aa), .val (.int kk), .val (.double (4696837146684686336 : UInt64)), .second, .val (.double (4602678819172646912 : UInt64)), .second, .val (.ref b17), .val (.double (FP.l2d xx)), .second, .val (.double (FP.dmul (FP.l2d xx) (4602678819172646912 : UInt64))), .second, .val (.int (1 : Int32)), .val (.ref b22), .unset, .unset, .unset] [(.int q1), (.ref b22)]))
    refine own_st (fun t k => XS.i2dS X28.here hx rfl (hb hby at_143) rfl (i2d_w q1) k) ?_
    show own_Go p e below K (T28.setTop (mkF m 144 #[.val (.int q1), .val (.int q2), .val (.int q3), .val (.int q4), .val (.int aa), .val (.int kk), .val (.double (4696837146684686336 : UInt64)), .second, .val (.double (4602678819172646912 : UInt64)), .second, .val (.ref b17), .val (.double (FP.l2d xx)), .second, .val (.double (FP.dmul (FP.l2d xx) (4602678819172646912 : UInt64))), .second, .val (.int (1 : Int32)), .val (.ref b22), .unset, .unset, .unset] [(.double (FP.l2d (q1).toInt64)), (.ref b22)]))
    obtain ⟨cq32, kq32, qv32a, qv32b, qv32c⟩ := isOf hZ rfl p28_0
    obtain ⟨_, _, ⟨T32, L32, k32, n32⟩, -, X32, ⟨Lc32, hQ32, l32, y32, z32⟩, st32⟩ := X28.virtualBack hx (y := (⟨"com/example/ms2rank/ms2rank/matching/MassTolerance", "lowestMatch", "(D)D"⟩ : MethodName)) (z := (⟨"com/example/ms2rank/ms2rank/matching/MassTolerance", "lowestMatch", "(D)D"⟩ : MethodName)) hown (mvT hZ (hw _ (List.mem_of_getElem? (i := 30) rfl))) (mvT hZ (hw _ (List.mem_of_getElem? (i := 31) rfl))) (notFace_of_selects (args := #[]) (mvT hZ (hw _ (List.mem_of_getElem? (i := 33) rfl)))) (mvT hZ (hw _ (List.mem_of_getElem? (i := 33) rfl))) (mvT hZ (hw _ (List.mem_of_getElem? (i := 32) rfl))) (by decide) (backOf (W := 0) (rm6 l Z a0 hw [] b22 (FP.l2d (q1).toInt64) ((FP.l2d (aa).toInt64)) ((FP.l2d (pp).toInt64)) (xx) T28.heap n0 Z28 p28_2 p28_1 (own_ds hxx) (own_m2 rfl hpb) (own_m3 rfl hpb) (own_m4 xx rfl hpb)) hZ (hw _ (List.mem_of_getElem? (i := 34) rfl)) (hw _ (List.mem_of_getElem? (i := 5) rfl)) (by decide) (by decide)) qv32a qv32c (g := (mkF m 144 #[.val (.int q1), .val (.int q2), .val (.int q3), .val (.int q4), .val (.int aa), .val (.int kk), .val (.double (4696837146684686336 : UInt64)), .second, .val (.double (4602678819172646912 : UInt64)), .second, .val (.ref b17), .val (.double (FP.l2d xx)), .second, .val (.double (FP.dmul (FP.l2d xx) (4602678819172646912 : UInt64))), .second, .val (.int (1 : Int32)), .val (.ref b22), .unset, .unset, .unset] [(.double (FP.l2d (q1).toInt64)), (.ref b22)])) rfl (by rw [hml]; rfl) (Steps.refl _) (argsL := [(.double (FP.l2d (q1).toInt64))]) (rest := []) (lenOf pd_0_3 rfl) rfl (by show 2 * 0 + _ ≤ _; exact Nat.le_of_eq rfl) (hb hby at_144) (fun _ _ => ⟨rfl, rfl, (by decide : 2 + 0 ≤ _), (by decide : 4 + 0 ≤ _)⟩)
    dsimp only [Pt.U, Pt.locs, Pt.cells, Pt.slots] at X32 l32 y32 z32 st32 hQ32
    obtain ⟨r32, rfl, hr32, N32q, e32⟩ := hQ32
    have N32 : Fr n0 L32 := by rw [l32]; exact Fr.app N28 N32q
    clear l32
    have y32' : k32 = 2 := y32
    have z32' : n32 = 4 := z32
    clear y32 z32
    subst y32' z32'
    refine own_tr st32 ?_
    show own_Go p e below K (T32.setTop (mkF m 147 #[.val (.int q1), .val (.int q2), .val (.int q3), .val (.int q4), .val (.int aa), .val (.int kk), .val (.double (4696837146684686336 : UInt64)), .second, .val (.double (4602678819172646912 : UInt64)), .second, .val (.ref b17), .val (.double (FP.l2d xx)), .second, .val (.double (FP.dmul (FP.l2d xx) (4602678819172646912 : UInt64))), .second, .val (.int (1 : Int32)), .val (.ref b22), .unset, .unset, .unset] [(.double r32)]))
    try clear X28 st32 N28 N32q
    refine own_st (fun t k => XS.dstore X32.here hx rfl (hb hby at_147) rfl (l' := #[.val (.int q1), .val (.int q2), .val (.int q3), .val (.int q4), .val (.int aa), .val (.int kk), .val (.double (4696837146684686336 : UInt64)), .second, .val (.double (4602678819172646912 : UInt64)), .second, .val (.ref b17), .val (.double (FP.l2d xx)), .second, .val (.double (FP.dmul (FP.l2d xx) (4602678819172646912 : UInt64))), .second, .val (.int (1 : Int32)), .val (.ref b22), .val (.double r32), .second, .unset]) rfl k) ?_
    show own_Go p e below K (T32.setTop (mkF m 149 #[.val (.int q1), .val (.int q2), .val (.int q3), .val (.int q4), .val (.int aa), .val (.int kk), .val (.double (4696837146684686336 : UInt64)), .second, .val (.double (4602678819172646912 : UInt64)), .second, .val (.ref b17), .val (.double (FP.l2d xx)), .second, .val (.double (FP.dmul (FP.l2d xx) (4602678819172646912 : UInt64))), .second, .val (.int (1 : Int32)), .val (.ref b22), .val (.double r32), .second, .unset] []))
    refine own_st (fun t k => XS.dload X32.here hx rfl (hb hby at_149) rfl k) ?_
    show own_Go p e below K (T32.setTop (mkF m 151 #[.val (.int q1), .val (.int q2), .val (.int q3), .val (.int q4), .val (.int aa), .val (.int kk), .val (.double (4696837146684686336 : UInt64)), .second, .val (.double (4602678819172646912 : UInt64)), .second, .val (.ref b17), .val (.double (FP.l2d xx)), .second, .val (.double (FP.dmul (FP.l2d xx) (4602678819172646912 : UInt64))), .second, .val (.int (1 : Int32)), .val (.ref b22), .val (.double r32), .second, .unset] [(.double (FP.l2d xx))]))
    refine own_st (fun t k => XS.dconst0 X32.here hx rfl (hb hby at_151) rfl k) ?_
    show own_Go p e below K (T32.setTop (mkF m 152 #[.val (.int q1), .val (.int q2), .val (.int q3), .val (.int q4), .val (.int aa), .val (.int kk), .val (.double (4696837146684686336 : UInt64)), .second, .val (.double (4602678819172646912 : UInt64)), .second, .val (.ref b17), .val (.double (FP.l2d xx)), .second, .val (.double (FP.dmul (FP.l2d xx) (4602678819172646912 : UInt64))), .second, .val (.int (1 : Int32)), .val (.ref b22), .val (.double r32), .second, .unset] [(.double FP.dconst0), (.double (FP.l2d xx))]))
    refine own_st (fun t k => XS.dcmpS X32.here hx rfl (hb hby at_152) rfl (own_lc rfl hxb .l) k) ?_
    show own_Go p e below K (T32.setTop (mkF m 153 #[.val (.int q1), .val (.int q2), .val (.int q3), .val (.int q4), .val (.int aa), .val (.int kk), .val (.double (4696837146684686336 : UInt64)), .second, .val (.double (4602678819172646912 : UInt64)), .second, .val (.ref b17), .val (.double (FP.l2d xx)), .second, .val (.double (FP.dmul (FP.l2d xx) (4602678819172646912 : UInt64))), .second, .val (.int (1 : Int32)), .val (.ref b22), .val (.double r32), .second, .unset] [(.int (lcmpW xx (0 : Int64)))]))
    by_cases hc153 : xx < (0 : Int64)
    · refine own_st (fun t k => XS.ifYes X32.here hx rfl (pc0 := 153) (pc' := 181) rfl (hb hby at_153) rfl ((if0 _ _).trans (tlt ((lw_lt xx (0 : Int64)).mpr hc153)).1) (by decide) (by decide) k) ?_
      show own_Go p e below K (T32.setTop (mkF m 181 #[.val (.int q1), .val (.int q2), .val (.int q3), .val (.int q4), .val (.int aa), .val (.int kk), .val (.double (4696837146684686336 : UInt64)), .second, .val (.double (4602678819172646912 : UInt64)), .second, .val (.ref b17), .val (.double (FP.l2d xx)), .second, .val (.double (FP.dmul (FP.l2d xx) (4602678819172646912 : UInt64))), .second, .val (.int (1 : Int32)), .val (.ref b22), .val (.double r32), .second, .unset] []))
      refine own_st (fun t k => XS.dload X32.here hx rfl (hb hby at_181) rfl k) ?_
      show own_Go p e below K (T32.setTop (mkF m 183 #[.val (.int q1), .val (.int q2), .val (.int q3), .val (.int q4), .val (.int aa), .val (.int kk), .val (.double (4696837146684686336 : UInt64)), .second, .val (.double (4602678819172646912 : UInt64)), .second, .val (.ref b17), .val (.double (FP.l2d xx)), .second, .val (.double (FP.dmul (FP.l2d xx) (4602678819172646912 : UInt64))), .second, .val (.int (1 : Int32)), .val (.ref b22), .val (.double r32), .second, .unset] [(.double (FP.l2d xx))]))
      refine own_st (fun t k => XS.dload X32.here hx rfl (hb hby at_183) rfl k) ?_
      show own_Go p e below K (T32.setTop (mkF m 185 #[.val (.int q1), .val (.int q2), .val (.int q3), .val (.int q4), .val (.int aa), .val (.int kk), .val (.double (4696837146684686336 : UInt64)), .second, .val (.double (4602678819172646912 : UInt64)), .second, .val (.ref b17), .val (.double (FP.l2d xx)), .second, .val (.double (FP.dmul (FP.l2d xx) (4602678819172646912 : UInt64))), .second, .val (.int (1 : Int32)), .val (.ref b22), .val (.double r32), .second, .unset] [(.double r32), (.double (FP.l2d xx))]))
      refine own_st (fun t k => XS.dcmpS X32.here hx rfl (hb hby at_185) rfl rfl k) ?_
      show own_Go p e below K (T32.setTop (mkF m 186 #[.val (.int q1), .val (.int q2), .val (.int q3), .val (.int q4), .val (.int aa), .val (.int kk), .val (.double (4696837146684686336 : UInt64)), .second, .val (.double (4602678819172646912 : UInt64)), .second, .val (.ref b17), .val (.double (FP.l2d xx)), .second, .val (.double (FP.dmul (FP.l2d xx) (4602678819172646912 : UInt64))), .second, .val (.int (1 : Int32)), .val (.ref b22), .val (.double r32), .second, .unset] [(.int (cmpValue (FP.dcmp (FP.l2d xx) r32) .g))]))
      refine own_st (fun t k => XS.ifNo X32.here hx rfl (hb hby at_186) rfl ((if0 _ _).trans (flt (own_ng (hr32 ▸ ((own_bnd (x := xx) (own_g rfl hpb)).2 (own_x1 hc153)).1) : ¬ ((0 : Int32) < (cmpValue (FP.dcmp (FP.l2d xx) r32) .g)))).2.2.1) k) ?_
      show own_Go p e below K (T32.setTop (mkF m 189 #[.val (.int q1), .val (.int q2), .val (.int q3), .val (.int q4), .val (.int aa), .val (.int kk), .val (.double (4696837146684686336 : UInt64)), .second, .val (.double (4602678819172646912 : UInt64)), .second, .val (.ref b17), .val (.double (FP.l2d xx)), .second, .val (.double (FP.dmul (FP.l2d xx) (4602678819172646912 : UInt64))), .second, .val (.int (1 : Int32)), .val (.ref b22), .val (.double r32), .second, .unset] []))
      refine own_st (fun t k => XS.dload X32.here hx rfl (hb hby at_189) rfl k) ?_
      show own_Go p e below K (T32.setTop (mkF m 191 #[.val (.int q1), .val (.int q2), .val (.int q3), .val (.int q4), .val (.int aa), .val (.int kk), .val (.double (4696837146684686336 : UInt64)), .second, .val (.double (4602678819172646912 : UInt64)), .second, .val (.ref b17), .val (.double (FP.l2d xx)), .second, .val (.double (FP.dmul (FP.l2d xx) (4602678819172646912 : UInt64))), .second, .val (.int (1 : Int32)), .val (.ref b22), .val (.double r32), .second, .unset] [(.double r32)]))
      refine own_st (fun t k => XS.dconst0 X32.here hx rfl (hb hby at_191) rfl k) ?_
      show own_Go p e below K (T32.setTop (mkF m 192 #[.val (.int q1), .val (.int q2), .val (.int q3), .val (.int q4), .val (.int aa), .val (.int kk), .val (.double (4696837146684686336 : UInt64)), .second, .val (.double (4602678819172646912 : UInt64)), .second, .val (.ref b17), .val (.double (FP.l2d xx)), .second, .val (.double (FP.dmul (FP.l2d xx) (4602678819172646912 : UInt64))), .second, .val (.int (1 : Int32)), .val (.ref b22), .val (.double r32), .second, .unset] [(.double FP.dconst0), (.double r32)]))
      refine own_st (fun t k => XS.dcmpS X32.here hx rfl (hb hby at_192) rfl rfl k) ?_
      show own_Go p e below K (T32.setTop (mkF m 193 #[.val (.int q1), .val (.int q2), .val (.int q3), .val (.int q4), .val (.int aa), .val (.int kk), .val (.double (4696837146684686336 : UInt64)), .second, .val (.double (4602678819172646912 : UInt64)), .second, .val (.ref b17), .val (.double (FP.l2d xx)), .second, .val (.double (FP.dmul (FP.l2d xx) (4602678819172646912 : UInt64))), .second, .val (.int (1 : Int32)), .val (.ref b22), .val (.double r32), .second, .unset] [(.int (cmpValue (FP.dcmp r32 FP.dconst0) .g))]))
      refine own_st (fun t k => XS.ifNo X32.here hx rfl (hb hby at_193) rfl ((if0 _ _).trans (flt (own_ng (hr32 ▸ ((own_bnd (x := xx) (own_g rfl hpb)).2 (own_x1 hc153)).2) : ¬ ((0 : Int32) < (cmpValue (FP.dcmp r32 FP.dconst0) .g)))).2.2.1) k) ?_
      show own_Go p e below K (T32.setTop (mkF m 196 #[.val (.int q1), .val (.int q2), .val (.int q3), .val (.int q4), .val (.int aa), .val (.int kk), .val (.double (4696837146684686336 : UInt64)), .second, .val (.double (4602678819172646912 : UInt64)), .second, .val (.ref b17), .val (.double (FP.l2d xx)), .second, .val (.double (FP.dmul (FP.l2d xx) (4602678819172646912 : UInt64))), .second, .val (.int (1 : Int32)), .val (.ref b22), .val (.double r32), .second, .unset] []))
      refine own_st (fun t k => XS.iconst X32.here hx rfl (hb hby at_196) k) ?_
      show own_Go p e below K (T32.setTop (mkF m 197 #[.val (.int q1), .val (.int q2), .val (.int q3), .val (.int q4), .val (.int aa), .val (.int kk), .val (.double (4696837146684686336 : UInt64)), .second, .val (.double (4602678819172646912 : UInt64)), .second, .val (.ref b17), .val (.double (FP.l2d xx)), .second, .val (.double (FP.dmul (FP.l2d xx) (4602678819172646912 : UInt64))), .second, .val (.int (1 : Int32)), .val (.ref b22), .val (.double r32), .second, .unset] [(.int (1 : Int32))]))
      refine own_st (fun t k => XS.goto X32.here hx rfl (pc0 := 197) (pc' := 201) rfl (hb hby at_197) (by decide) (by decide) k) ?_
      show own_Go p e below K (T32.setTop (mkF m 201 #[.val (.int q1), .val (.int q2), .val (.int q3), .val (.int q4), .val (.int aa), .val (.int kk), .val (.double (4696837146684686336 : UInt64)), .second, .val (.double (4602678819172646912 : UInt64)), .second, .val (.ref b17), .val (.double (FP.l2d xx)), .second, .val (.double (FP.dmul (FP.l2d xx) (4602678819172646912 : UInt64))), .second, .val (.int (1 : Int32)), .val (.ref b22), .val (.double r32), .second, .unset] [(.int (1 : Int32))]))
      refine own_st (fun t k => XS.istore X32.here hx rfl (hb hby at_201) rfl (l' := #[.val (.int q1), .val (.int q2), .val (.int q3), .val (.int q4), .val (.int aa), .val (.int kk), .val (.double (4696837146684686336 : UInt64)), .second, .val (.double (4602678819172646912 : UInt64)), .second, .val (.ref b17), .val (.double (FP.l2d xx)), .second, .val (.double (FP.dmul (FP.l2d xx) (4602678819172646912 : UInt64))), .second, .val (.int (1 : Int32)), .val (.ref b22), .val (.double r32), .second, .val (.int (1 : Int32))]) rfl k) ?_
      show own_Go p e below K (T32.setTop (mkF m 203 #[.val (.int q1), .val (.int q2), .val (.int q3), .val (.int q4), .val (.int aa), .val (.int kk), .val (.double (4696837146684686336 : UInt64)), .second, .val (.double (4602678819172646912 : UInt64)), .second, .val (.ref b17), .val (.double (FP.l2d xx)), .second, .val (.double (FP.dmul (FP.l2d xx) (4602678819172646912 : UInt64))), .second, .val (.int (1 : Int32)), .val (.ref b22), .val (.double r32), .second, .val (.int (1 : Int32))] []))
      refine own_st (fun t k => XS.iload X32.here hx rfl (hb hby at_203) rfl k) ?_
      show own_Go p e below K (T32.setTop (mkF m 205 #[.val (.int q1), .val (.int q2), .val (.int q3), .val (.int q4), .val (.int aa), .val (.int kk), .val (.double (4696837146684686336 : UInt64)), .second, .val (.double (4602678819172646912 : UInt64)), .second, .val (.ref b17), .val (.double (FP.l2d xx)), .second, .val (.double (FP.dmul (FP.l2d xx) (4602678819172646912 : UInt64))), .second, .val (.int (1 : Int32)), .val (.ref b22), .val (.double r32), .second, .val (.int (1 : Int32))] [(.int (1 : Int32))]))
      refine own_st (fun t k => XS.ifNo X32.here hx rfl (hb hby at_205) rfl ((if0 _ _).trans (feq (by decide : ¬ ((1 : Int32) = (0 : Int32)))).1) k) ?_
      show own_Go p e below K (T32.setTop (mkF m 208 #[.val (.int q1), .val (.int q2), .val (.int q3), .val (.int q4), .val (.int aa), .val (.int kk), .val (.double (4696837146684686336 : UInt64)), .second, .val (.double (4602678819172646912 : UInt64)), .second, .val (.ref b17), .val (.double (FP.l2d xx)), .second, .val (.double (FP.dmul (FP.l2d xx) (4602678819172646912 : UInt64))), .second, .val (.int (1 : Int32)), .val (.ref b22), .val (.double r32), .second, .val (.int (1 : Int32))] []))
      refine own_st (fun t k => XS.iload X32.here hx rfl (hb hby at_208) rfl k) ?_
      show own_Go p e below K (T32.setTop (mkF m 210 #[.val (.int q1), .val (.int q2), .val (.int q3), .val (.int q4), .val (.int aa), .val (.int kk), .val (.double (4696837146684686336 : UInt64)), .second, .val (.double (4602678819172646912 : UInt64)), .second, .val (.ref b17), .val (.double (FP.l2d xx)), .second, .val (.double (FP.dmul (FP.l2d xx) (4602678819172646912 : UInt64))), .second, .val (.int (1 : Int32)), .val (.ref b22), .val (.double r32), .second, .val (.int (1 : Int32))] [(.int (1 : Int32))]))
      refine own_st (fun t k => XS.ifNo X32.here hx rfl (hb hby at_210) rfl ((if0 _ _).trans (feq (by decide : ¬ ((1 : Int32) = (0 : Int32)))).1) k) ?_
      show own_Go p e below K (T32.setTop (mkF m 213 #[.val (.int q1), .val (.int q2), .val (.int q3), .val (.int q4), .val (.int aa), .val (.int kk), .val (.double (4696837146684686336 : UInt64)), .second, .val (.double (4602678819172646912 : UInt64)), .second, .val (.ref b17), .val (.double (FP.l2d xx)), .second, .val (.double (FP.dmul (FP.l2d xx) (4602678819172646912 : UInt64))), .second, .val (.int (1 : Int32)), .val (.ref b22), .val (.double r32), .second, .val (.int (1 : Int32))] []))
      refine own_st (fun t k => XS.iconst X32.here hx rfl (hb hby at_213) k) ?_
      show own_Go p e below K (T32.setTop (mkF m 214 #[.val (.int q1), .val (.int q2), .val (.int q3), .val (.int q4), .val (.int aa), .val (.int kk), .val (.double (4696837146684686336 : UInt64)), .second, .val (.double (4602678819172646912 : UInt64)), .second, .val (.ref b17), .val (.double (FP.l2d xx)), .second, .val (.double (FP.dmul (FP.l2d xx) (4602678819172646912 : UInt64))), .second, .val (.int (1 : Int32)), .val (.ref b22), .val (.double r32), .second, .val (.int (1 : Int32))] [(.int (1 : Int32))]))
      refine own_st (fun t k => XS.goto X32.here hx rfl (pc0 := 214) (pc' := 218) rfl (hb hby at_214) (by decide) (by decide) k) ?_
      show own_Go p e below K (T32.setTop (mkF m 218 #[.val (.int q1), .val (.int q2), .val (.int q3), .val (.int q4), .val (.int aa), .val (.int kk), .val (.double (4696837146684686336 : UInt64)), .second, .val (.double (4602678819172646912 : UInt64)), .second, .val (.ref b17), .val (.double (FP.l2d xx)), .second, .val (.double (FP.dmul (FP.l2d xx) (4602678819172646912 : UInt64))), .second, .val (.int (1 : Int32)), .val (.ref b22), .val (.double r32), .second, .val (.int (1 : Int32))] [(.int (1 : Int32))]))
      obtain ⟨fs, hr, hrun, hended, hW, hsame⟩ := X32.leave (v := some (.int (nar .boolean (1 : Int32)))) (fun h => by rw [Bd.returns] at h; cases h)
      refine ⟨_, retN X32 hx (t := .boolean) Bd.returns (by simp) (hb hby at_218) hr, fin _ _ _ hrun hended ?_ ⟨⟨_, rfl⟩, hW, hsame.mono (by decide) (by decide)⟩⟩
      show Q0 Z q1 q2 q3 q4 h0 n0 _ T32.heap _
      rw [e32]
      exact ⟨rfl, N32⟩
    refine own_st (fun t k => XS.ifNo X32.here hx rfl (hb hby at_153) rfl ((if0 _ _).trans (flt (fun q => hc153 ((lw_lt xx (0 : Int64)).mp q))).1) k) ?_
    show own_Go p e below K (T32.setTop (mkF m 156 #[.val (.int q1), .val (.int q2), .val (.int q3), .val (.int q4), .val (.int aa), .val (.int kk), .val (.double (4696837146684686336 : UInt64)), .second, .val (.double (4602678819172646912 : UInt64)), .second, .val (.ref b17), .val (.double (FP.l2d xx)), .second, .val (.double (FP.dmul (FP.l2d xx) (4602678819172646912 : UInt64))), .second, .val (.int (1 : Int32)), .val (.ref b22), .val (.double r32), .second, .unset] []))
    refine own_st (fun t k => XS.dconst0 X32.here hx rfl (hb hby at_156) rfl k) ?_
    show own_Go p e below K (T32.setTop (mkF m 157 #[.val (.int q1), .val (.int q2), .val (.int q3), .val (.int q4), .val (.int aa), .val (.int kk), .val (.double (4696837146684686336 : UInt64)), .second, .val (.double (4602678819172646912 : UInt64)), .second, .val (.ref b17), .val (.double (FP.l2d xx)), .second, .val (.double (FP.dmul (FP.l2d xx) (4602678819172646912 : UInt64))), .second, .val (.int (1 : Int32)), .val (.ref b22), .val (.double r32), .second, .unset] [(.double FP.dconst0)]))
    refine own_st (fun t k => XS.dload X32.here hx rfl (hb hby at_157) rfl k) ?_
    show own_Go p e below K (T32.setTop (mkF m 159 #[.val (.int q1), .val (.int q2), .val (.int q3), .val (.int q4), .val (.int aa), .val (.int kk), .val (.double (4696837146684686336 : UInt64)), .second, .val (.double (4602678819172646912 : UInt64)), .second, .val (.ref b17), .val (.double (FP.l2d xx)), .second, .val (.double (FP.dmul (FP.l2d xx) (4602678819172646912 : UInt64))), .second, .val (.int (1 : Int32)), .val (.ref b22), .val (.double r32), .second, .unset] [(.double r32), (.double FP.dconst0)]))
    refine own_st (fun t k => XS.dcmpS X32.here hx rfl (hb hby at_159) rfl rfl k) ?_
    show own_Go p e below K (T32.setTop (mkF m 160 #[.val (.int q1), .val (.int q2), .val (.int q3), .val (.int q4), .val (.int aa), .val (.int kk), .val (.double (4696837146684686336 : UInt64)), .second, .val (.double (4602678819172646912 : UInt64)), .second, .val (.ref b17), .val (.double (FP.l2d xx)), .second, .val (.double (FP.dmul (FP.l2d xx) (4602678819172646912 : UInt64))), .second, .val (.int (1 : Int32)), .val (.ref b22), .val (.double r32), .second, .unset] [(.int (cmpValue (FP.dcmp FP.dconst0 r32) .g))]))
    refine own_st (fun t k => XS.ifNo X32.here hx rfl (hb hby at_160) rfl ((if0 _ _).trans (flt (own_ng (hr32 ▸ ((own_bnd (x := xx) (own_g rfl hpb)).1 (own_x0 hc153)).1) : ¬ ((0 : Int32) < (cmpValue (FP.dcmp FP.dconst0 r32) .g)))).2.2.1) k) ?_
    show own_Go p e below K (T32.setTop (mkF m 163 #[.val (.int q1), .val (.int q2), .val (.int q3), .val (.int q4), .val (.int aa), .val (.int kk), .val (.double (4696837146684686336 : UInt64)), .second, .val (.double (4602678819172646912 : UInt64)), .second, .val (.ref b17), .val (.double (FP.l2d xx)), .second, .val (.double (FP.dmul (FP.l2d xx) (4602678819172646912 : UInt64))), .second, .val (.int (1 : Int32)), .val (.ref b22), .val (.double r32), .second, .unset] []))
    refine own_st (fun t k => XS.dload X32.here hx rfl (hb hby at_163) rfl k) ?_
    show own_Go p e below K (T32.setTop (mkF m 165 #[.val (.int q1), .val (.int q2), .val (.int q3), .val (.int q4), .val (.int aa), .val (.int kk), .val (.double (4696837146684686336 : UInt64)), .second, .val (.double (4602678819172646912 : UInt64)), .second, .val (.ref b17), .val (.double (FP.l2d xx)), .second, .val (.double (FP.dmul (FP.l2d xx) (4602678819172646912 : UInt64))), .second, .val (.int (1 : Int32)), .val (.ref b22), .val (.double r32), .second, .unset] [(.double r32)]))
    refine own_st (fun t k => XS.dload X32.here hx rfl (hb hby at_165) rfl k) ?_
    show own_Go p e below K (T32.setTop (mkF m 167 #[.val (.int q1), .val (.int q2), .val (.int q3), .val (.int q4), .val (.int aa), .val (.int kk), .val (.double (4696837146684686336 : UInt64)), .second, .val (.double (4602678819172646912 : UInt64)), .second, .val (.ref b17), .val (.double (FP.l2d xx)), .second, .val (.double (FP.dmul (FP.l2d xx) (4602678819172646912 : UInt64))), .second, .val (.int (1 : Int32)), .val (.ref b22), .val (.double r32), .second, .unset] [(.double (FP.l2d xx)), (.double r32)]))
    refine own_st (fun t k => XS.dcmpS X32.here hx rfl (hb hby at_167) rfl rfl k) ?_
    show own_Go p e below K (T32.setTop (mkF m 168 #[.val (.int q1), .val (.int q2), .val (.int q3), .val (.int q4), .val (.int aa), .val (.int kk), .val (.double (4696837146684686336 : UInt64)), .second, .val (.double (4602678819172646912 : UInt64)), .second, .val (.ref b17), .val (.double (FP.l2d xx)), .second, .val (.double (FP.dmul (FP.l2d xx) (4602678819172646912 : UInt64))), .second, .val (.int (1 : Int32)), .val (.ref b22), .val (.double r32), .second, .unset] [(.int (cmpValue (FP.dcmp r32 (FP.l2d xx)) .g))]))
    refine own_st (fun t k => XS.ifNo X32.here hx rfl (hb hby at_168) rfl ((if0 _ _).trans (flt (own_ng (hr32 ▸ ((own_bnd (x := xx) (own_g rfl hpb)).1 (own_x0 hc153)).2) : ¬ ((0 : Int32) < (cmpValue (FP.dcmp r32 (FP.l2d xx)) .g)))).2.2.1) k) ?_
    show own_Go p e below K (T32.setTop (mkF m 171 #[.val (.int q1), .val (.int q2), .val (.int q3), .val (.int q4), .val (.int aa), .val (.int kk), .val (.double (4696837146684686336 : UInt64)), .second, .val (.double (4602678819172646912 : UInt64)), .second, .val (.ref b17), .val (.double (FP.l2d xx)), .second, .val (.double (FP.dmul (FP.l2d xx) (4602678819172646912 : UInt64))), .second, .val (.int (1 : Int32)), .val (.ref b22), .val (.double r32), .second, .unset] []))
    refine own_st (fun t k => XS.iconst X32.here hx rfl (hb hby at_171) k) ?_
    show own_Go p e below K (T32.setTop (mkF m 172 #[.val (.int q1), .val (.int q2), .val (.int q3), .val (.int q4), .val (.int aa), .val (.int kk), .val (.double (4696837146684686336 : UInt64)), .second, .val (.double (4602678819172646912 : UInt64)), .second, .val (.ref b17), .val (.double (FP.l2d xx)), .second, .val (.double (FP.dmul (FP.l2d xx) (4602678819172646912 : UInt64))), .second, .val (.int (1 : Int32)), .val (.ref b22), .val (.double r32), .second, .unset] [(.int (1 : Int32))]))
    refine own_st (fun t k => XS.goto X32.here hx rfl (pc0 := 172) (pc' := 176) rfl (hb hby at_172) (by decide) (by decide) k) ?_
    show own_Go p e below K (T32.setTop (mkF m 176 #[.val (.int q1), .val (.int q2), .val (.int q3), .val (.int q4), .val (.int aa), .val (.int kk), .val (.double (4696837146684686336 : UInt64)), .second, .val (.double (4602678819172646912 : UInt64)), .second, .val (.ref b17), .val (.double (FP.l2d xx)), .second, .val (.double (FP.dmul (FP.l2d xx) (4602678819172646912 : UInt64))), .second, .val (.int (1 : Int32)), .val (.ref b22), .val (.double r32), .second, .unset] [(.int (1 : Int32))]))
    refine own_st (fun t k => XS.istore X32.here hx rfl (hb hby at_176) rfl (l' := #[.val (.int q1), .val (.int q2), .val (.int q3), .val (.int q4), .val (.int aa), .val (.int kk), .val (.double (4696837146684686336 : UInt64)), .second, .val (.double (4602678819172646912 : UInt64)), .second, .val (.ref b17), .val (.double (FP.l2d xx)), .second, .val (.double (FP.dmul (FP.l2d xx) (4602678819172646912 : UInt64))), .second, .val (.int (1 : Int32)), .val (.ref b22), .val (.double r32), .second, .val (.int (1 : Int32))]) rfl k) ?_
    show own_Go p e below K (T32.setTop (mkF m 178 #[.val (.int q1), .val (.int q2), .val (.int q3), .val (.int q4), .val (.int aa), .val (.int kk), .val (.double (4696837146684686336 : UInt64)), .second, .val (.double (4602678819172646912 : UInt64)), .second, .val (.ref b17), .val (.double (FP.l2d xx)), .second, .val (.double (FP.dmul (FP.l2d xx) (4602678819172646912 : UInt64))), .second, .val (.int (1 : Int32)), .val (.ref b22), .val (.double r32), .second, .val (.int (1 : Int32))] []))
    refine own_st (fun t k => XS.goto X32.here hx rfl (pc0 := 178) (pc' := 203) rfl (hb hby at_178) (by decide) (by decide) k) ?_
    show own_Go p e below K (T32.setTop (mkF m 203 #[.val (.int q1), .val (.int q2), .val (.int q3), .val (.int q4), .val (.int aa), .val (.int kk), .val (.double (4696837146684686336 : UInt64)), .second, .val (.double (4602678819172646912 : UInt64)), .second, .val (.ref b17), .val (.double (FP.l2d xx)), .second, .val (.double (FP.dmul (FP.l2d xx) (4602678819172646912 : UInt64))), .second, .val (.int (1 : Int32)), .val (.ref b22), .val (.double r32), .second, .val (.int (1 : Int32))] []))
    refine own_st (fun t k => XS.iload X32.here hx rfl (hb hby at_203) rfl k) ?_
    show own_Go p e below K (T32.setTop (mkF m 205 #[.val (.int q1), .val (.int q2), .val (.int q3), .val (.int q4), .val (.int aa), .val (.int kk), .val (.double (4696837146684686336 : UInt64)), .second, .val (.double (4602678819172646912 : UInt64)), .second, .val (.ref b17), .val (.double (FP.l2d xx)), .second, .val (.double (FP.dmul (FP.l2d xx) (4602678819172646912 : UInt64))), .second, .val (.int (1 : Int32)), .val (.ref b22), .val (.double r32), .second, .val (.int (1 : Int32))] [(.int (1 : Int32))]))
    refine own_st (fun t k => XS.ifNo X32.here hx rfl (hb hby at_205) rfl ((if0 _ _).trans (feq (by decide : ¬ ((1 : Int32) = (0 : Int32)))).1) k) ?_
    show own_Go p e below K (T32.setTop (mkF m 208 #[.val (.int q1), .val (.int q2), .val (.int q3), .val (.int q4), .val (.int aa), .val (.int kk), .val (.double (4696837146684686336 : UInt64)), .second, .val (.double (4602678819172646912 : UInt64)), .second, .val (.ref b17), .val (.double (FP.l2d xx)), .second, .val (.double (FP.dmul (FP.l2d xx) (4602678819172646912 : UInt64))), .second, .val (.int (1 : Int32)), .val (.ref b22), .val (.double r32), .second, .val (.int (1 : Int32))] []))
    refine own_st (fun t k => XS.iload X32.here hx rfl (hb hby at_208) rfl k) ?_
    show own_Go p e below K (T32.setTop (mkF m 210 #[.val (.int q1), .val (.int q2), .val (.int q3), .val (.int q4), .val (.int aa), .val (.int kk), .val (.double (4696837146684686336 : UInt64)), .second, .val (.double (4602678819172646912 : UInt64)), .second, .val (.ref b17), .val (.double (FP.l2d xx)), .second, .val (.double (FP.dmul (FP.l2d xx) (4602678819172646912 : UInt64))), .second, .val (.int (1 : Int32)), .val (.ref b22), .val (.double r32), .second, .val (.int (1 : Int32))] [(.int (1 : Int32))]))
    refine own_st (fun t k => XS.ifNo X32.here hx rfl (hb hby at_210) rfl ((if0 _ _).trans (feq (by decide : ¬ ((1 : Int32) = (0 : Int32)))).1) k) ?_
    show own_Go p e below K (T32.setTop (mkF m 213 #[.val (.int q1), .val (.int q2), .val (.int q3), .val (.int q4), .val (.int aa), .val (.int kk), .val (.double (4696837146684686336 : UInt64)), .second, .val (.double (4602678819172646912 : UInt64)), .second, .val (.ref b17), .val (.double (FP.l2d xx)), .second, .val (.double (FP.dmul (FP.l2d xx) (4602678819172646912 : UInt64))), .second, .val (.int (1 : Int32)), .val (.ref b22), .val (.double r32), .second, .val (.int (1 : Int32))] []))
    refine own_st (fun t k => XS.iconst X32.here hx rfl (hb hby at_213) k) ?_
    show own_Go p e below K (T32.setTop (mkF m 214 #[.val (.int q1), .val (.int q2), .val (.int q3), .val (.int q4), .val (.int aa), .val (.int kk), .val (.double (4696837146684686336 : UInt64)), .second, .val (.double (4602678819172646912 : UInt64)), .second, .val (.ref b17), .val (.double (FP.l2d xx)), .second, .val (.double (FP.dmul (FP.l2d xx) (4602678819172646912 : UInt64))), .second, .val (.int (1 : Int32)), .val (.ref b22), .val (.double r32), .second, .val (.int (1 : Int32))] [(.int (1 : Int32))]))
    refine own_st (fun t k => XS.goto X32.here hx rfl (pc0 := 214) (pc' := 218) rfl (hb hby at_214) (by decide) (by decide) k) ?_
    show own_Go p e below K (T32.setTop (mkF m 218 #[.val (.int q1), .val (.int q2), .val (.int q3), .val (.int q4), .val (.int aa), .val (.int kk), .val (.double (4696837146684686336 : UInt64)), .second, .val (.double (4602678819172646912 : UInt64)), .second, .val (.ref b17), .val (.double (FP.l2d xx)), .second, .val (.double (FP.dmul (FP.l2d xx) (4602678819172646912 : UInt64))), .second, .val (.int (1 : Int32)), .val (.ref b22), .val (.double r32), .second, .val (.int (1 : Int32))] [(.int (1 : Int32))]))
    obtain ⟨fs, hr, hrun, hended, hW, hsame⟩ := X32.leave (v := some (.int (nar .boolean (1 : Int32)))) (fun h => by rw [Bd.returns] at h; cases h)
    refine ⟨_, retN X32 hx (t := .boolean) Bd.returns (by simp) (hb hby at_218) hr, fin _ _ _ hrun hended ?_ ⟨⟨_, rfl⟩, hW, hsame.mono (by decide) (by decide)⟩⟩
    show Q0 Z q1 q2 q3 q4 h0 n0 _ T32.heap _
    rw [e32]
    exact ⟨rfl, N32⟩
  refine own_st (fun t k => XS.icmpYes X0.here hx rfl (pc0 := 28) (pc' := 44) rfl (hb hby at_28) rfl (feq hc28).2 (by decide) (by decide) k) ?_
  show own_Go p e below K (s₁.setTop (mkF m 44 #[.val (.int q1), .val (.int q2), .val (.int q3), .val (.int q4), .val (.int aa), .val (.int kk), .unset, .unset, .unset, .unset, .unset, .unset, .unset, .unset, .unset, .unset, .unset, .unset, .unset, .unset] []))
  refine own_st (fun t k => XS.iload X0.here hx rfl (hb hby at_44) rfl k) ?_
  show own_Go p e below K (s₁.setTop (mkF m 46 #[.val (.int q1), .val (.int q2), .val (.int q3), .val (.int q4), .val (.int aa), .val (.int kk), .unset, .unset, .unset, .unset, .unset, .unset, .unset, .unset, .unset, .unset, .unset, .unset, .unset, .unset] [(.int kk)]))
  refine own_st (fun t k => XS.iconst X0.here hx rfl (hb hby at_46) k) ?_
  show own_Go p e below K (s₁.setTop (mkF m 47 #[.val (.int q1), .val (.int q2), .val (.int q3), .val (.int q4), .val (.int aa), .val (.int kk), .unset, .unset, .unset, .unset, .unset, .unset, .unset, .unset, .unset, .unset, .unset, .unset, .unset, .unset] [(.int (2 : Int32)), (.int kk)]))
  by_cases hc47 : kk = (2 : Int32)
  · refine own_st (fun t k => XS.icmpNo X0.here hx rfl (hb hby at_47) rfl (teq hc47).2 k) ?_
    show own_Go p e below K (s₁.setTop (mkF m 50 #[.val (.int q1), .val (.int q2), .val (.int q3), .val (.int q4), .val (.int aa), .val (.int kk), .unset, .unset, .unset, .unset, .unset, .unset, .unset, .unset, .unset, .unset, .unset, .unset, .unset, .unset] []))
    refine own_st (X0.ldc2DoubleC hx hown (mvT hZ (hw _ (List.mem_of_getElem? (i := 1) rfl))) (g := (mkF m 50 #[.val (.int q1), .val (.int q2), .val (.int q3), .val (.int q4), .val (.int aa), .val (.int kk), .unset, .unset, .unset, .unset, .unset, .unset, .unset, .unset, .unset, .unset, .unset, .unset, .unset, .unset] [])) rfl (hb hby at_50)) ?_
    show own_Go p e below K (s₁.setTop (mkF m 53 #[.val (.int q1), .val (.int q2), .val (.int q3), .val (.int q4), .val (.int aa), .val (.int kk), .unset, .unset, .unset, .unset, .unset, .unset, .unset, .unset, .unset, .unset, .unset, .unset, .unset, .unset] [(.double (4703696862291427328 : UInt64))]))
    refine own_st (fun t k => XS.dstore X0.here hx rfl (hb hby at_53) rfl (l' := #[.val (.int q1), .val (.int q2), .val (.int q3), .val (.int q4), .val (.int aa), .val (.int kk), .val (.double (4703696862291427328 : UInt64)), .second, .unset, .unset, .unset, .unset, .unset, .unset, .unset, .unset, .unset, .unset, .unset, .unset]) rfl k) ?_
    show own_Go p e below K (s₁.setTop (mkF m 55 #[.val (.int q1), .val (.int q2), .val (.int q3), .val (.int q4), .val (.int aa), .val (.int kk), .val (.double (4703696862291427328 : UInt64)), .second, .unset, .unset, .unset, .unset, .unset, .unset, .unset, .unset, .unset, .unset, .unset, .unset] []))
    refine own_st (X0.ldc2DoubleC hx hown (mvT hZ (hw _ (List.mem_of_getElem? (i := 2) rfl))) (g := (mkF m 55 #[.val (.int q1), .val (.int q2), .val (.int q3), .val (.int q4), .val (.int aa), .val (.int kk), .val (.double (4703696862291427328 : UInt64)), .second, .unset, .unset, .unset, .unset, .unset, .unset, .unset, .unset, .unset, .unset, .unset, .unset] [])) rfl (hb hby at_55)) ?_
    show own_Go p e below K (s₁.setTop (mkF m 58 #[.val (.int q1), .val (.int q2), .val (.int q3), .val (.int q4), .val (.int aa), .val (.int kk), .val (.double (4703696862291427328 : UInt64)), .second, .unset, .unset, .unset, .unset, .unset, .unset, .unset, .unset, .unset, .unset, .unset, .unset] [(.double (4598175219545276416 : UInt64))]))
    refine own_st (fun t k => XS.dstore X0.here hx rfl (hb hby at_58) rfl (l' := #[.val (.int q1), .val (.int q2), .val (.int q3), .val (.int q4), .val (.int aa), .val (.int kk), .val (.double (4703696862291427328 : UInt64)), .second, .val (.double (4598175219545276416 : UInt64)), .second, .unset, .unset, .unset, .unset, .unset, .unset, .unset, .unset, .unset, .unset]) rfl k) ?_
    show own_Go p e below K (s₁.setTop (mkF m 60 #[.val (.int q1), .val (.int q2), .val (.int q3), .val (.int q4), .val (.int aa), .val (.int kk), .val (.double (4703696862291427328 : UInt64)), .second, .val (.double (4598175219545276416 : UInt64)), .second, .unset, .unset, .unset, .unset, .unset, .unset, .unset, .unset, .unset, .unset] []))
    refine own_st (fun t k => XS.goto X0.here hx rfl (pc0 := 60) (pc' := 73) rfl (hb hby at_60) (by decide) (by decide) k) ?_
    show own_Go p e below K (s₁.setTop (mkF m 73 #[.val (.int q1), .val (.int q2), .val (.int q3), .val (.int q4), .val (.int aa), .val (.int kk), .val (.double (4703696862291427328 : UInt64)), .second, .val (.double (4598175219545276416 : UInt64)), .second, .unset, .unset, .unset, .unset, .unset, .unset, .unset, .unset, .unset, .unset] []))
    obtain ⟨T33, h33, X33, e33, E33, A33, D33, -, st33⟩ := newO X0 hx hZ hown (hw _ (List.mem_of_getElem? (i := 3) rfl)) (hw _ (List.mem_of_getElem? (i := 4) rfl)) (hw _ (List.mem_of_getElem? (i := 5) rfl)) e0 (g := (mkF m 73 #[.val (.int q1), .val (.int q2), .val (.int q3), .val (.int q4), .val (.int aa), .val (.int kk), .val (.double (4703696862291427328 : UInt64)), .second, .val (.double (4598175219545276416 : UInt64)), .second, .unset, .unset, .unset, .unset, .unset, .unset, .unset, .unset, .unset, .unset] [])) rfl (hb hby at_73) (by decide) (by decide)
    obtain ⟨b33, g33⟩ : ∃ z, z = h0.size := ⟨_, rfl⟩
    rw [← g33] at A33 D33 st33
    have g_b33 : n0 ≤ b33 := Nat.le_trans Z0 (Nat.le_of_eq g33.symm)
    have f34 : Fld Z h33 b33 "com/example/ms2rank/ms2rank/matching/MassTolerance" "ppm" "D" (defaultValue .double) := D33 (Or.inr (hw _ (List.mem_of_getElem? (i := 27) rfl))) (ty := .double) (by decide)
    have f35 : Fld Z h33 b33 "com/example/ms2rank/ms2rank/matching/MassTolerance" "absolute" "D" (defaultValue .double) := D33 (Or.inr (hw _ (List.mem_of_getElem? (i := 29) rfl))) (ty := .double) (by decide)
    have Z33 : n0 ≤ h33.size := Nat.le_trans Z0 E33.1
    refine own_st st33 ?_
    show own_Go p e below K (T33.setTop (mkF m 76 #[.val (.int q1), .val (.int q2), .val (.int q3), .val (.int q4), .val (.int aa), .val (.int kk), .val (.double (4703696862291427328 : UInt64)), .second, .val (.double (4598175219545276416 : UInt64)), .second, .unset, .unset, .unset, .unset, .unset, .unset, .unset, .unset, .unset, .unset] [(.ref b33)]))
    try clear st33
    refine own_st (fun t k => XS.dup X33.here hx rfl (hb hby at_76) rfl rfl k) ?_
    show own_Go p e below K (T33.setTop (mkF m 77 #[.val (.int q1), .val (.int q2), .val (.int q3), .val (.int q4), .val (.int aa), .val (.int kk), .val (.double (4703696862291427328 : UInt64)), .second, .val (.double (4598175219545276416 : UInt64)), .second, .unset, .unset, .unset, .unset, .unset, .unset, .unset, .unset, .unset, .unset] [(.ref b33), (.ref b33)]))
    refine own_st (fun t k => XS.dload X33.here hx rfl (hb hby at_77) rfl k) ?_
    show own_Go p e below K (T33.setTop (mkF m 79 #[.val (.int q1), .val (.int q2), .val (.int q3), .val (.int q4), .val (.int aa), .val (.int kk), .val (.double (4703696862291427328 : UInt64)), .second, .val (.double (4598175219545276416 : UInt64)), .second, .unset, .unset, .unset, .unset, .unset, .unset, .unset, .unset, .unset, .unset] [(.double (4703696862291427328 : UInt64)), (.ref b33), (.ref b33)]))
    refine own_st (fun t k => XS.iload X33.here hx rfl (hb hby at_79) rfl k) ?_
    show own_Go p e below K (T33.setTop (mkF m 81 #[.val (.int q1), .val (.int q2), .val (.int q3), .val (.int q4), .val (.int aa), .val (.int kk), .val (.double (4703696862291427328 : UInt64)), .second, .val (.double (4598175219545276416 : UInt64)), .second, .unset, .unset, .unset, .unset, .unset, .unset, .unset, .unset, .unset, .unset] [(.int aa), (.double (4703696862291427328 : UInt64)), (.ref b33), (.ref b33)]))
    refine own_st (fun t k => XS.i2dS X33.here hx rfl (hb hby at_81) rfl (i2d_w aa) k) ?_
    show own_Go p e below K (T33.setTop (mkF m 82 #[.val (.int q1), .val (.int q2), .val (.int q3), .val (.int q4), .val (.int aa), .val (.int kk), .val (.double (4703696862291427328 : UInt64)), .second, .val (.double (4598175219545276416 : UInt64)), .second, .unset, .unset, .unset, .unset, .unset, .unset, .unset, .unset, .unset, .unset] [(.double (FP.l2d (aa).toInt64)), (.double (4703696862291427328 : UInt64)), (.ref b33), (.ref b33)]))
    obtain ⟨_, _, ⟨T36, L36, k36, n36⟩, -, X36, ⟨Lc36, hQ36, l36, y36, z36⟩, st36⟩ := X33.specialBack hx (y := (⟨"com/example/ms2rank/ms2rank/matching/MassTolerance", "<init>", "(DD)V"⟩ : MethodName)) rfl hown (mvT hZ (hw _ (List.mem_of_getElem? (i := 6) rfl))) (mvT hZ (hw _ (List.mem_of_getElem? (i := 7) rfl))) (mvT hZ (hw _ (List.mem_of_getElem? (i := 8) rfl))) (by decide) (backOf (W := 1) (rm1 l Z a0 hw [] b33 (4703696862291427328 : UInt64) (FP.l2d (aa).toInt64) (3000000) ((aa).toInt64) h33 n0 Z33 g_b33 A33 f34 f35 own_p3 rfl ⟨by decide, by decide⟩ haa) hZ (hw _ (List.mem_of_getElem? (i := 8) rfl)) (hw _ (List.mem_of_getElem? (i := 5) rfl)) (by decide) (by decide)) (g := (mkF m 82 #[.val (.int q1), .val (.int q2), .val (.int q3), .val (.int q4), .val (.int aa), .val (.int kk), .val (.double (4703696862291427328 : UInt64)), .second, .val (.double (4598175219545276416 : UInt64)), .second, .unset, .unset, .unset, .unset, .unset, .unset, .unset, .unset, .unset, .unset] [(.double (FP.l2d (aa).toInt64)), (.double (4703696862291427328 : UInt64)), (.ref b33), (.ref b33)])) rfl (by rw [hml]; rfl) (Steps.refl _) (a := b33) (argsL := [(.double (4703696862291427328 : UInt64)), (.double (FP.l2d (aa).toInt64))]) (rest := [(.ref b33)]) (lenOf pd_0_0 rfl) rfl (by show 2 * 0 + _ ≤ _; exact Nat.le_of_eq rfl) (hb hby at_82) (fun _ _ => ⟨rfl, e33, (by decide : 1 + 0 ≤ _), (by decide : 2 + 0 ≤ _)⟩)
    dsimp only [Pt.U, Pt.locs, Pt.cells, Pt.slots] at X36 l36 y36 z36 st36 hQ36
    obtain ⟨rfl, N36q, Kq36, p36_0, p36_1, p36_2⟩ := hQ36
    have N36 : Fr n0 L36 := by rw [l36]; exact Fr.app N0 N36q
    clear l36
    have y36' : k36 = 1 := y36
    have z36' : n36 = 2 := z36
    clear y36 z36
    subst y36' z36'
    have Z36 : n0 ≤ T36.heap.size := Nat.le_trans Z33 Kq36.1
    refine own_tr st36 ?_
    show own_Go p e below K (T36.setTop (mkF m 85 #[.val (.int q1), .val (.int q2), .val (.int q3), .val (.int q4), .val (.int aa), .val (.int kk), .val (.double (4703696862291427328 : UInt64)), .second, .val (.double (4598175219545276416 : UInt64)), .second, .unset, .unset, .unset, .unset, .unset, .unset, .unset, .unset, .unset, .unset] [(.ref b33)]))
    try clear X33 e33 st36 N36q
    refine own_st (fun t k => XS.astore X36.here hx rfl (hb hby at_85) rfl rfl (l' := #[.val (.int q1), .val (.int q2), .val (.int q3), .val (.int q4), .val (.int aa), .val (.int kk), .val (.double (4703696862291427328 : UInt64)), .second, .val (.double (4598175219545276416 : UInt64)), .second, .val (.ref b33), .unset, .unset, .unset, .unset, .unset, .unset, .unset, .unset, .unset]) rfl k) ?_
    show own_Go p e below K (T36.setTop (mkF m 87 #[.val (.int q1), .val (.int q2), .val (.int q3), .val (.int q4), .val (.int aa), .val (.int kk), .val (.double (4703696862291427328 : UInt64)), .second, .val (.double (4598175219545276416 : UInt64)), .second, .val (.ref b33), .unset, .unset, .unset, .unset, .unset, .unset, .unset, .unset, .unset] []))
    refine own_st (fun t k => XS.iloadN X36.here hx rfl (hb hby at_87) rfl k) ?_
    show own_Go p e below K (T36.setTop (mkF m 88 #[.val (.int q1), .val (.int q2), .val (.int q3), .val (.int q4), .val (.int aa), .val (.int kk), .val (.double (4703696862291427328 : UInt64)), .second, .val (.double (4598175219545276416 : UInt64)), .second, .val (.ref b33), .unset, .unset, .unset, .unset, .unset, .unset, .unset, .unset, .unset] [(.int q1)]))
    refine own_st (fun t k => XS.i2l X36.here hx rfl (hb hby at_88) rfl k) ?_
    show own_Go p e below K (T36.setTop (mkF m 89 #[.val (.int q1), .val (.int q2), .val (.int q3), .val (.int q4), .val (.int aa), .val (.int kk), .val (.double (4703696862291427328 : UInt64)), .second, .val (.double (4598175219545276416 : UInt64)), .second, .val (.ref b33), .unset, .unset, .unset, .unset, .unset, .unset, .unset, .unset, .unset] [(.long (q1.toInt64))]))
    refine own_st (fun t k => XS.iload X36.here hx rfl (hb hby at_89) rfl k) ?_
    show own_Go p e below K (T36.setTop (mkF m 91 #[.val (.int q1), .val (.int q2), .val (.int q3), .val (.int q4), .val (.int aa), .val (.int kk), .val (.double (4703696862291427328 : UInt64)), .second, .val (.double (4598175219545276416 : UInt64)), .second, .val (.ref b33), .unset, .unset, .unset, .unset, .unset, .unset, .unset, .unset, .unset] [(.int aa), (.long (q1.toInt64))]))
    refine own_st (fun t k => XS.i2l X36.here hx rfl (hb hby at_91) rfl k) ?_
    show own_Go p e below K (T36.setTop (mkF m 92 #[.val (.int q1), .val (.int q2), .val (.int q3), .val (.int q4), .val (.int aa), .val (.int kk), .val (.double (4703696862291427328 : UInt64)), .second, .val (.double (4598175219545276416 : UInt64)), .second, .val (.ref b33), .unset, .unset, .unset, .unset, .unset, .unset, .unset, .unset, .unset] [(.long (aa.toInt64)), (.long (q1.toInt64))]))
    refine own_st (fun t k => XS.lsub X36.here hx rfl (hb hby at_92) rfl k) ?_
    show own_Go p e below K (T36.setTop (mkF m 93 #[.val (.int q1), .val (.int q2), .val (.int q3), .val (.int q4), .val (.int aa), .val (.int kk), .val (.double (4703696862291427328 : UInt64)), .second, .val (.double (4598175219545276416 : UInt64)), .second, .val (.ref b33), .unset, .unset, .unset, .unset, .unset, .unset, .unset, .unset, .unset] [(.long ((q1.toInt64) - (aa.toInt64)))]))
    generalize hxx : ((q1.toInt64) - (aa.toInt64)) = xx
    show own_Go p e below K (T36.setTop (mkF m 93 #[.val (.int q1), .val (.int q2), .val (.int q3), .val (.int q4), .val (.int aa), .val (.int kk), .val (.double (4703696862291427328 : UInt64)), .second, .val (.double (4598175219545276416 : UInt64)), .second, .val (.ref b33), .unset, .unset, .unset, .unset, .unset, .unset, .unset, .unset, .unset] [(.long xx)]))
    have hxb := own_xb hxx haa
    refine own_st (fun t k => XS.l2dS X36.here hx rfl (hb hby at_93) rfl rfl k) ?_
    show own_Go p e below K (T36.setTop (mkF m 94 #[.val (.int q1), .val (.int q2), .val (.int q3), .val (.int q4), .val (.int aa), .val (.int kk), .val (.double (4703696862291427328 : UInt64)), .second, .val (.double (4598175219545276416 : UInt64)), .second, .val (.ref b33), .unset, .unset, .unset, .unset, .unset, .unset, .unset, .unset, .unset] [(.double (FP.l2d xx))]))
    refine own_st (fun t k => XS.dstore X36.here hx rfl (hb hby at_94) rfl (l' := #[.val (.int q1), .val (.int q2), .val (.int q3), .val (.int q4), .val (.int aa), .val (.int kk), .val (.double (4703696862291427328 : UInt64)), .second, .val (.double (4598175219545276416 : UInt64)), .second, .val (.ref b33), .val (.double (FP.l2d xx)), .second, .unset, .unset, .unset, .unset, .unset, .unset, .unset]) rfl k) ?_
    show own_Go p e below K (T36.setTop (mkF m 96 #[.val (.int q1), .val (.int q2), .val (.int q3), .val (.int q4), .val (.int aa), .val (.int kk), .val (.double (4703696862291427328 : UInt64)), .second, .val (.double (4598175219545276416 : UInt64)), .second, .val (.ref b33), .val (.double (FP.l2d xx)), .second, .unset, .unset, .unset, .unset, .unset, .unset, .unset] []))
    refine own_st (fun t k => XS.dload X36.here hx rfl (hb hby at_96) rfl k) ?_
    show own_Go p e below K (T36.setTop (mkF m 98 #[.val (.int q1), .val (.int q2), .val (.int q3), .val (.int q4), .val (.int aa), .val (.int kk), .val (.double (4703696862291427328 : UInt64)), .second, .val (.double (4598175219545276416 : UInt64)), .second, .val (.ref b33), .val (.double (FP.l2d xx)), .second, .unset, .unset, .unset, .unset, .unset, .unset, .unset] [(.double (FP.l2d xx))]))
    refine own_st (fun t k => XS.dload X36.here hx rfl (hb hby at_98) rfl k) ?_
    show own_Go p e below K (T36.setTop (mkF m 100 #[.val (.int q1), .val (.int q2), .val (.int q3), .val (.int q4), .val (.int aa), .val (.int kk), .val (.double (4703696862291427328 : UInt64)), .second, .val (.double (4598175219545276416 : UInt64)), .second, .val (.ref b33), .val (.double (FP.l2d xx)), .second, .unset, .unset, .unset, .unset, .unset, .unset, .unset] [(.double (4598175219545276416 : UInt64)), (.double (FP.l2d xx))]))
    refine own_st (fun t k => XS.dmulS X36.here hx rfl (hb hby at_100) rfl (own_sc own_h2) rfl k) ?_
    show own_Go p e below K (T36.setTop (mkF m 101 #[.val (.int q1), .val (.int q2), .val (.int q3), .val (.int q4), .val (.int aa), .val (.int kk), .val (.double (4703696862291427328 : UInt64)), .second, .val (.double (4598175219545276416 : UInt64)), .second, .val (.ref b33), .val (.double (FP.l2d xx)), .second, .unset, .unset, .unset, .unset, .unset, .unset, .unset] [(.double (FP.dmul (FP.l2d xx) (4598175219545276416 : UInt64)))]))
    refine own_st (fun t k => XS.dstore X36.here hx rfl (hb hby at_101) rfl (l' := #[.val (.int q1), .val (.int q2), .val (.int q3), .val (.int q4), .val (.int aa), .val (.int kk), .val (.double (4703696862291427328 : UInt64)), .second, .val (.double (4598175219545276416 : UInt64)), .second, .val (.ref b33), .val (.double (FP.l2d xx)), .second, .val (.double (FP.dmul (FP.l2d xx) (4598175219545276416 : UInt64))), .second, .unset, .unset, .unset, .unset, .unset]) rfl k) ?_
    show own_Go p e below K (T36.setTop (mkF m 103 #[.val (.int q1), .val (.int q2), .val (.int q3), .val (.int q4), .val (.int aa), .val (.int kk), .val (.double (4703696862291427328 : UInt64)), .second, .val (.double (4598175219545276416 : UInt64)), .second, .val (.ref b33), .val (.double (FP.l2d xx)), .second, .val (.double (FP.dmul (FP.l2d xx) (4598175219545276416 : UInt64))), .second, .unset, .unset, .unset, .unset, .unset] []))
    refine own_st (fun t k => XS.aload X36.here hx rfl (hb hby at_103) rfl rfl k) ?_
    show own_Go p e below K (T36.setTop (mkF m 105 #[.val (.int q1), .val (.int q2), .val (.int q3), .val (.int q4), .val (.int aa), .val (.int kk), .val (.double (4703696862291427328 : UInt64)), .second, .val (.double (4598175219545276416 : UInt64)), .second, .val (.ref b33), .val (.double (FP.l2d xx)), .second, .val (.double (FP.dmul (FP.l2d xx) (4598175219545276416 : UInt64))), .second, .unset, .unset, .unset, .unset, .unset] [(.ref b33)]))
    refine own_st (fun t k => XS.iloadN X36.here hx rfl (hb hby at_105) rfl k) ?_
    show own_Go p e below K (T36.setTop (mkF m 106 #[.val (.int q1), .val (.int q2), .val (.int q3), .val (.int q4), .val (.int aa), .val (.int kk), .val (.double (4703696862291427328 : UInt64)), .second, .val (.double (4598175219545276416 : UInt64)), .second, .val (.ref b33), .val (.double (FP.l2d xx)), .second, .val (.double (FP.dmul (FP.l2d xx) (4598175219545276416 : UInt64))), .second, .unset, .unset, .unset, .unset, .unset] [(.int q1), (.ref b33)]))
    refine own_st (fun t k => XS.i2dS X36.here hx rfl (hb hby at_106) rfl (i2d_w q1) k) ?_
    show own_Go p e below K (T36.setTop (mkF m 107 #[.val (.int q1), .val (.int q2), .val (.int q3), .val (.int q4), .val (.int aa), .val (.int kk), .val (.double (4703696862291427328 : UInt64)), .second, .val (.double (4598175219545276416 : UInt64)), .second, .val (.ref b33), .val (.double (FP.l2d xx)), .second, .val (.double (FP.dmul (FP.l2d xx) (4598175219545276416 : UInt64))), .second, .unset, .unset, .unset, .unset, .unset] [(.double (FP.l2d (q1).toInt64)), (.ref b33)]))
    obtain ⟨cq37, kq37, qv37a, qv37b, qv37c⟩ := isOf hZ rfl p36_0
    obtain ⟨_, _, ⟨T37, L37, k37, n37⟩, -, X37, ⟨Lc37, hQ37, l37, y37, z37⟩, st37⟩ := X36.virtualBack hx (y := (⟨"com/example/ms2rank/ms2rank/matching/MassTolerance", "lowestMatch", "(D)D"⟩ : MethodName)) (z := (⟨"com/example/ms2rank/ms2rank/matching/MassTolerance", "lowestMatch", "(D)D"⟩ : MethodName)) hown (mvT hZ (hw _ (List.mem_of_getElem? (i := 30) rfl))) (mvT hZ (hw _ (List.mem_of_getElem? (i := 31) rfl))) (notFace_of_selects (args := #[]) (mvT hZ (hw _ (List.mem_of_getElem? (i := 33) rfl)))) (mvT hZ (hw _ (List.mem_of_getElem? (i := 33) rfl))) (mvT hZ (hw _ (List.mem_of_getElem? (i := 32) rfl))) (by decide) (backOf (W := 0) (rm6 l Z a0 hw [] b33 (FP.l2d (q1).toInt64) ((FP.l2d (aa).toInt64)) ((4703696862291427328 : UInt64)) (xx) T36.heap n0 Z36 p36_2 p36_1 (own_ds hxx) (own_m2 own_p3 ⟨by decide, by decide⟩) (own_m3 own_p3 ⟨by decide, by decide⟩) (own_m4 xx own_p3 ⟨by decide, by decide⟩)) hZ (hw _ (List.mem_of_getElem? (i := 34) rfl)) (hw _ (List.mem_of_getElem? (i := 5) rfl)) (by decide) (by decide)) qv37a qv37c (g := (mkF m 107 #[.val (.int q1), .val (.int q2), .val (.int q3), .val (.int q4), .val (.int aa), .val (.int kk), .val (.double (4703696862291427328 : UInt64)), .second, .val (.double (4598175219545276416 : UInt64)), .second, .val (.ref b33), .val (.double (FP.l2d xx)), .second, .val (.double (FP.dmul (FP.l2d xx) (4598175219545276416 : UInt64))), .second, .unset, .unset, .unset, .unset, .unset] [(.double (FP.l2d (q1).toInt64)), (.ref b33)])) rfl (by rw [hml]; rfl) (Steps.refl _) (argsL := [(.double (FP.l2d (q1).toInt64))]) (rest := []) (lenOf pd_0_3 rfl) rfl (by show 2 * 0 + _ ≤ _; exact Nat.le_of_eq rfl) (hb hby at_107) (fun _ _ => ⟨rfl, rfl, (by decide : 1 + 0 ≤ _), (by decide : 2 + 0 ≤ _)⟩)
    dsimp only [Pt.U, Pt.locs, Pt.cells, Pt.slots] at X37 l37 y37 z37 st37 hQ37
    obtain ⟨r37, rfl, hr37, N37q, e37⟩ := hQ37
    have N37 : Fr n0 L37 := by rw [l37]; exact Fr.app N36 N37q
    clear l37
    have y37' : k37 = 1 := y37
    have z37' : n37 = 2 := z37
    clear y37 z37
    subst y37' z37'
    refine own_tr st37 ?_
    show own_Go p e below K (T37.setTop (mkF m 110 #[.val (.int q1), .val (.int q2), .val (.int q3), .val (.int q4), .val (.int aa), .val (.int kk), .val (.double (4703696862291427328 : UInt64)), .second, .val (.double (4598175219545276416 : UInt64)), .second, .val (.ref b33), .val (.double (FP.l2d xx)), .second, .val (.double (FP.dmul (FP.l2d xx) (4598175219545276416 : UInt64))), .second, .unset, .unset, .unset, .unset, .unset] [(.double r37)]))
    try clear X36 st37 N36 N37q
    refine own_st (fun t k => XS.dload X37.here hx rfl (hb hby at_110) rfl k) ?_
    show own_Go p e below K (T37.setTop (mkF m 112 #[.val (.int q1), .val (.int q2), .val (.int q3), .val (.int q4), .val (.int aa), .val (.int kk), .val (.double (4703696862291427328 : UInt64)), .second, .val (.double (4598175219545276416 : UInt64)), .second, .val (.ref b33), .val (.double (FP.l2d xx)), .second, .val (.double (FP.dmul (FP.l2d xx) (4598175219545276416 : UInt64))), .second, .unset, .unset, .unset, .unset, .unset] [(.double (FP.dmul (FP.l2d xx) (4598175219545276416 : UInt64))), (.double r37)]))
    refine own_st (fun t k => XS.dcmpS X37.here hx rfl (hb hby at_112) rfl (dcmpV_eq (own_ex2 hr37) (own_ex2 hr37 ▸ own_sc own_h2) .l) k) ?_
    show own_Go p e below K (T37.setTop (mkF m 113 #[.val (.int q1), .val (.int q2), .val (.int q3), .val (.int q4), .val (.int aa), .val (.int kk), .val (.double (4703696862291427328 : UInt64)), .second, .val (.double (4598175219545276416 : UInt64)), .second, .val (.ref b33), .val (.double (FP.l2d xx)), .second, .val (.double (FP.dmul (FP.l2d xx) (4598175219545276416 : UInt64))), .second, .unset, .unset, .unset, .unset, .unset] [(.int (0 : Int32))]))
    refine own_st (fun t k => XS.ifNo X37.here hx rfl (hb hby at_113) rfl ((if0 _ _).trans (teq (by decide : (0 : Int32) = (0 : Int32))).2) k) ?_
    show own_Go p e below K (T37.setTop (mkF m 116 #[.val (.int q1), .val (.int q2), .val (.int q3), .val (.int q4), .val (.int aa), .val (.int kk), .val (.double (4703696862291427328 : UInt64)), .second, .val (.double (4598175219545276416 : UInt64)), .second, .val (.ref b33), .val (.double (FP.l2d xx)), .second, .val (.double (FP.dmul (FP.l2d xx) (4598175219545276416 : UInt64))), .second, .unset, .unset, .unset, .unset, .unset] []))
    refine own_st (fun t k => XS.iconst X37.here hx rfl (hb hby at_116) k) ?_
    show own_Go p e below K (T37.setTop (mkF m 117 #[.val (.int q1), .val (.int q2), .val (.int q3), .val (.int q4), .val (.int aa), .val (.int kk), .val (.double (4703696862291427328 : UInt64)), .second, .val (.double (4598175219545276416 : UInt64)), .second, .val (.ref b33), .val (.double (FP.l2d xx)), .second, .val (.double (FP.dmul (FP.l2d xx) (4598175219545276416 : UInt64))), .second, .unset, .unset, .unset, .unset, .unset] [(.int (1 : Int32))]))
    refine own_st (fun t k => XS.goto X37.here hx rfl (pc0 := 117) (pc' := 121) rfl (hb hby at_117) (by decide) (by decide) k) ?_
    show own_Go p e below K (T37.setTop (mkF m 121 #[.val (.int q1), .val (.int q2), .val (.int q3), .val (.int q4), .val (.int aa), .val (.int kk), .val (.double (4703696862291427328 : UInt64)), .second, .val (.double (4598175219545276416 : UInt64)), .second, .val (.ref b33), .val (.double (FP.l2d xx)), .second, .val (.double (FP.dmul (FP.l2d xx) (4598175219545276416 : UInt64))), .second, .unset, .unset, .unset, .unset, .unset] [(.int (1 : Int32))]))
    refine own_st (fun t k => XS.istore X37.here hx rfl (hb hby at_121) rfl (l' := #[.val (.int q1), .val (.int q2), .val (.int q3), .val (.int q4), .val (.int aa), .val (.int kk), .val (.double (4703696862291427328 : UInt64)), .second, .val (.double (4598175219545276416 : UInt64)), .second, .val (.ref b33), .val (.double (FP.l2d xx)), .second, .val (.double (FP.dmul (FP.l2d xx) (4598175219545276416 : UInt64))), .second, .val (.int (1 : Int32)), .unset, .unset, .unset, .unset]) rfl k) ?_
    show own_Go p e below K (T37.setTop (mkF m 123 #[.val (.int q1), .val (.int q2), .val (.int q3), .val (.int q4), .val (.int aa), .val (.int kk), .val (.double (4703696862291427328 : UInt64)), .second, .val (.double (4598175219545276416 : UInt64)), .second, .val (.ref b33), .val (.double (FP.l2d xx)), .second, .val (.double (FP.dmul (FP.l2d xx) (4598175219545276416 : UInt64))), .second, .val (.int (1 : Int32)), .unset, .unset, .unset, .unset] []))
    obtain ⟨T38, h38, X38, e38, E38, A38, D38, -, st38⟩ := newO X37 hx hZ hown (hw _ (List.mem_of_getElem? (i := 3) rfl)) (hw _ (List.mem_of_getElem? (i := 4) rfl)) (hw _ (List.mem_of_getElem? (i := 5) rfl)) e37 (g := (mkF m 123 #[.val (.int q1), .val (.int q2), .val (.int q3), .val (.int q4), .val (.int aa), .val (.int kk), .val (.double (4703696862291427328 : UInt64)), .second, .val (.double (4598175219545276416 : UInt64)), .second, .val (.ref b33), .val (.double (FP.l2d xx)), .second, .val (.double (FP.dmul (FP.l2d xx) (4598175219545276416 : UInt64))), .second, .val (.int (1 : Int32)), .unset, .unset, .unset, .unset] [])) rfl (hb hby at_123) (by decide) (by decide)
    obtain ⟨b38, g38⟩ : ∃ z, z = T36.heap.size := ⟨_, rfl⟩
    rw [← g38] at A38 D38 st38
    have ne_b33_b38 : b33 ≠ b38 := Nat.ne_of_lt (Nat.lt_of_lt_of_le p36_0.lt (Nat.le_of_eq g38.symm))
    have g_b38 : n0 ≤ b38 := Nat.le_trans Z36 (Nat.le_of_eq g38.symm)
    have f39 : Exa Z h38 b33 "com/example/ms2rank/ms2rank/matching/MassTolerance" := p36_0.ext E38
    have f40 : Fld Z h38 b33 "com/example/ms2rank/ms2rank/matching/MassTolerance" "ppm" "D" (.double (4703696862291427328 : UInt64)) := p36_1.ext E38
    have f41 : Fld Z h38 b33 "com/example/ms2rank/ms2rank/matching/MassTolerance" "absolute" "D" (.double (FP.l2d (aa).toInt64)) := p36_2.ext E38
    have f42 : Fld Z h38 b38 "com/example/ms2rank/ms2rank/matching/MassTolerance" "ppm" "D" (defaultValue .double) := D38 (Or.inr (hw _ (List.mem_of_getElem? (i := 27) rfl))) (ty := .double) (by decide)
    have f43 : Fld Z h38 b38 "com/example/ms2rank/ms2rank/matching/MassTolerance" "absolute" "D" (defaultValue .double) := D38 (Or.inr (hw _ (List.mem_of_getElem? (i := 29) rfl))) (ty := .double) (by decide)
    have Z38 : n0 ≤ h38.size := Nat.le_trans Z36 E38.1
    refine own_st st38 ?_
    show own_Go p e below K (T38.setTop (mkF m 126 #[.val (.int q1), .val (.int q2), .val (.int q3), .val (.int q4), .val (.int aa), .val (.int kk), .val (.double (4703696862291427328 : UInt64)), .second, .val (.double (4598175219545276416 : UInt64)), .second, .val (.ref b33), .val (.double (FP.l2d xx)), .second, .val (.double (FP.dmul (FP.l2d xx) (4598175219545276416 : UInt64))), .second, .val (.int (1 : Int32)), .unset, .unset, .unset, .unset] [(.ref b38)]))
    try clear X37 e37 st38 p36_0 p36_1 p36_2
    refine own_st (fun t k => XS.dup X38.here hx rfl (hb hby at_126) rfl rfl k) ?_
    show own_Go p e below K (T38.setTop (mkF m 127 #[.val (.int q1), .val (.int q2), .val (.int q3), .val (.int q4), .val (.int aa), .val (.int kk), .val (.double (4703696862291427328 : UInt64)), .second, .val (.double (4598175219545276416 : UInt64)), .second, .val (.ref b33), .val (.double (FP.l2d xx)), .second, .val (.double (FP.dmul (FP.l2d xx) (4598175219545276416 : UInt64))), .second, .val (.int (1 : Int32)), .unset, .unset, .unset, .unset] [(.ref b38), (.ref b38)]))
    refine own_st (fun t k => XS.iloadN X38.here hx rfl (hb hby at_127) rfl k) ?_
    show own_Go p e below K (T38.setTop (mkF m 128 #[.val (.int q1), .val (.int q2), .val (.int q3), .val (.int q4), .val (.int aa), .val (.int kk), .val (.double (4703696862291427328 : UInt64)), .second, .val (.double (4598175219545276416 : UInt64)), .second, .val (.ref b33), .val (.double (FP.l2d xx)), .second, .val (.double (FP.dmul (FP.l2d xx) (4598175219545276416 : UInt64))), .second, .val (.int (1 : Int32)), .unset, .unset, .unset, .unset] [(.int q4), (.ref b38), (.ref b38)]))
    refine own_st (X38.ldcInt hx hown (mvT hZ (hw _ (List.mem_of_getElem? (i := 36) rfl))) (g := (mkF m 128 #[.val (.int q1), .val (.int q2), .val (.int q3), .val (.int q4), .val (.int aa), .val (.int kk), .val (.double (4703696862291427328 : UInt64)), .second, .val (.double (4598175219545276416 : UInt64)), .second, .val (.ref b33), .val (.double (FP.l2d xx)), .second, .val (.double (FP.dmul (FP.l2d xx) (4598175219545276416 : UInt64))), .second, .val (.int (1 : Int32)), .unset, .unset, .unset, .unset] [(.int q4), (.ref b38), (.ref b38)])) rfl (hb hby at_128)) ?_
    show own_Go p e below K (T38.setTop (mkF m 130 #[.val (.int q1), .val (.int q2), .val (.int q3), .val (.int q4), .val (.int aa), .val (.int kk), .val (.double (4703696862291427328 : UInt64)), .second, .val (.double (4598175219545276416 : UInt64)), .second, .val (.ref b33), .val (.double (FP.l2d xx)), .second, .val (.double (FP.dmul (FP.l2d xx) (4598175219545276416 : UInt64))), .second, .val (.int (1 : Int32)), .unset, .unset, .unset, .unset] [(.int (1048575 : Int32)), (.int q4), (.ref b38), (.ref b38)]))
    refine own_st (fun t k => XS.iand X38.here hx rfl (hb hby at_130) rfl k) ?_
    show own_Go p e below K (T38.setTop (mkF m 131 #[.val (.int q1), .val (.int q2), .val (.int q3), .val (.int q4), .val (.int aa), .val (.int kk), .val (.double (4703696862291427328 : UInt64)), .second, .val (.double (4598175219545276416 : UInt64)), .second, .val (.ref b33), .val (.double (FP.l2d xx)), .second, .val (.double (FP.dmul (FP.l2d xx) (4598175219545276416 : UInt64))), .second, .val (.int (1 : Int32)), .unset, .unset, .unset, .unset] [(.int (q4 &&& (1048575 : Int32))), (.ref b38), (.ref b38)]))
    generalize hpp : (q4 &&& (1048575 : Int32)) = pp
    show own_Go p e below K (T38.setTop (mkF m 131 #[.val (.int q1), .val (.int q2), .val (.int q3), .val (.int q4), .val (.int aa), .val (.int kk), .val (.double (4703696862291427328 : UInt64)), .second, .val (.double (4598175219545276416 : UInt64)), .second, .val (.ref b33), .val (.double (FP.l2d xx)), .second, .val (.double (FP.dmul (FP.l2d xx) (4598175219545276416 : UInt64))), .second, .val (.int (1 : Int32)), .unset, .unset, .unset, .unset] [(.int pp), (.ref b38), (.ref b38)]))
    have hpb := own_pp hpp
    refine own_st (fun t k => XS.i2dS X38.here hx rfl (hb hby at_131) rfl (i2d_w pp) k) ?_
    show own_Go p e below K (T38.setTop (mkF m 132 #[.val (.int q1), .val (.int q2), .val (.int q3), .val (.int q4), .val (.int aa), .val (.int kk), .val (.double (4703696862291427328 : UInt64)), .second, .val (.double (4598175219545276416 : UInt64)), .second, .val (.ref b33), .val (.double (FP.l2d xx)), .second, .val (.double (FP.dmul (FP.l2d xx) (4598175219545276416 : UInt64))), .second, .val (.int (1 : Int32)), .unset, .unset, .unset, .unset] [(.double (FP.l2d (pp).toInt64)), (.ref b38), (.ref b38)]))
    refine own_st (fun t k => XS.iload X38.here hx rfl (hb hby at_132) rfl k) ?_
    show own_Go p e below K (T38.setTop (mkF m 134 #[.val (.int q1), .val (.int q2), .val (.int q3), .val (.int q4), .val (.int aa), .val (.int kk), .val (.double (4703696862291427328 : UInt64)), .second, .val (.double (4598175219545276416 : UInt64)), .second, .val (.ref b33), .val (.double (FP.l2d xx)), .second, .val (.double (FP.dmul (FP.l2d xx) (4598175219545276416 : UInt64))), .second, .val (.int (1 : Int32)), .unset, .unset, .unset, .unset] [(.int aa), (.double (FP.l2d (pp).toInt64)), (.ref b38), (.ref b38)]))
    refine own_st (fun t k => XS.i2dS X38.here hx rfl (hb hby at_134) rfl (i2d_w aa) k) ?_
    show own_Go p e below K (T38.setTop (mkF m 135 #[.val (.int q1), .val (.int q2), .val (.int q3), .val (.int q4), .val (.int aa), .val (.int kk), .val (.double (4703696862291427328 : UInt64)), .second, .val (.double (4598175219545276416 : UInt64)), .second, .val (.ref b33), .val (.double (FP.l2d xx)), .second, .val (.double (FP.dmul (FP.l2d xx) (4598175219545276416 : UInt64))), .second, .val (.int (1 : Int32)), .unset, .unset, .unset, .unset] [(.double (FP.l2d (aa).toInt64)), (.double (FP.l2d (pp).toInt64)), (.ref b38), (.ref b38)]))
    obtain ⟨_, _, ⟨T44, L44, k44, n44⟩, -, X44, ⟨Lc44, hQ44, l44, y44, z44⟩, st44⟩ := X38.specialBack hx (y := (⟨"com/example/ms2rank/ms2rank/matching/MassTolerance", "<init>", "(DD)V"⟩ : MethodName)) rfl hown (mvT hZ (hw _ (List.mem_of_getElem? (i := 6) rfl))) (mvT hZ (hw _ (List.mem_of_getElem? (i := 7) rfl))) (mvT hZ (hw _ (List.mem_of_getElem? (i := 8) rfl))) (by decide) (backOf (W := 1) (rm1 l Z a0 hw [] b38 (FP.l2d (pp).toInt64) (FP.l2d (aa).toInt64) ((pp).toInt64) ((aa).toInt64) h38 n0 Z38 g_b38 A38 f42 f43 rfl rfl hpb haa) hZ (hw _ (List.mem_of_getElem? (i := 8) rfl)) (hw _ (List.mem_of_getElem? (i := 5) rfl)) (by decide) (by decide)) (g := (mkF m 135 #[.val (.int q1), .val (.int q2), .val (.int q3), .val (.int q4), .val (.int aa), .val (.int kk), .val (.double (4703696862291427328 : UInt64)), .second, .val (.double (4598175219545276416 : UInt64)), .second, .val (.ref b33), .val (.double (FP.l2d xx)), .second, .val (.double (FP.dmul (FP.l2d xx) (4598175219545276416 : UInt64))), .second, .val (.int (1 : Int32)), .unset, .unset, .unset, .unset] [(.double (FP.l2d (aa).toInt64)), (.double (FP.l2d (pp).toInt64)), (.ref b38), (.ref b38)])) rfl (by rw [hml]; rfl) (Steps.refl _) (a := b38) (argsL := [(.double (FP.l2d (pp).toInt64)), (.double (FP.l2d (aa).toInt64))]) (rest := [(.ref b38)]) (lenOf pd_0_0 rfl) rfl (by show 2 * 0 + _ ≤ _; exact Nat.le_of_eq rfl) (hb hby at_135) (fun _ _ => ⟨rfl, e38, (by decide : 2 + 0 ≤ _), (by decide : 4 + 0 ≤ _)⟩)
    dsimp only [Pt.U, Pt.locs, Pt.cells, Pt.slots] at X44 l44 y44 z44 st44 hQ44
    obtain ⟨rfl, N44q, Kq44, p44_0, p44_1, p44_2⟩ := hQ44
    have N44 : Fr n0 L44 := by rw [l44]; exact Fr.app N37 N44q
    clear l44
    have y44' : k44 = 2 := y44
    have z44' : n44 = 4 := z44
    clear y44 z44
    subst y44' z44'
    have f45 : Exa Z T44.heap b33 "com/example/ms2rank/ms2rank/matching/MassTolerance" := f39.keep Kq44
    have f46 : Fld Z T44.heap b33 "com/example/ms2rank/ms2rank/matching/MassTolerance" "ppm" "D" (.double (4703696862291427328 : UInt64)) := f40.keep Kq44 (ninS ne_b33_b38 nin0)
    have f47 : Fld Z T44.heap b33 "com/example/ms2rank/ms2rank/matching/MassTolerance" "absolute" "D" (.double (FP.l2d (aa).toInt64)) := f41.keep Kq44 (ninS ne_b33_b38 nin0)
    have Z44 : n0 ≤ T44.heap.size := Nat.le_trans Z38 Kq44.1
    refine own_tr st44 ?_
    show own_Go p e below K (T44.setTop (mkF m 138 #[.val (.int q1), .val (.int q2), .val (.int q3), .val (.int q4), .val (.int aa), .val (.int kk), .val (.double (4703696862291427328 : UInt64)), .second, .val (.double (4598175219545276416 : UInt64)), .second, .val (.ref b33), .val (.double (FP.l2d xx)), .second, .val (.double (FP.dmul (FP.l2d xx) (4598175219545276416 : UInt64))), .second, .val (.int (1 : Int32)), .unset, .unset, .unset, .unset] [(.ref b38)]))
    try clear X38 e38 st44 N37 N44q f39 f40 f41
    refine own_st (fun t k => XS.astore X44.here hx rfl (hb hby at_138) rfl rfl (l' := #[.val (.int q1), .val (.int q2), .val (.int q3), .val (.int q4), .val (.int aa), .val (.int kk), .val (.double (4703696862291427328 : UInt64)), .second, .val (.double (4598175219545276416 : UInt64)), .second, .val (.ref b33), .val (.double (FP.l2d xx)), .second, .val (.double (FP.dmul (FP.l2d xx) (4598175219545276416 : UInt64))), .second, .val (.int (1 : Int32)), .val (.ref b38), .unset, .unset, .unset]) rfl k) ?_
    show own_Go p e below K (T44.setTop (mkF m 140 #[.val (.int q1), .val (.int q2), .val (.int q3), .val (.int q4), .val (.int aa), .val (.int kk), .val (.double (4703696862291427328 : UInt64)), .second, .val (.double (4598175219545276416 : UInt64)), .second, .val (.ref b33), .val (.double (FP.l2d xx)), .second, .val (.double (FP.dmul (FP.l2d xx) (4598175219545276416 : UInt64))), .second, .val (.int (1 : Int32)), .val (.ref b38), .unset, .unset, .unset] []))
    refine own_st (fun t k => XS.aload X44.here hx rfl (hb hby at_140) rfl rfl k) ?_
    show own_Go p e below K (T44.setTop (mkF m 142 #[.val (.int q1), .val (.int q2), .val (.int q3), .val (.int q4), .val (.int aa), .val (.int kk), .val (.double (4703696862291427328 : UInt64)), .second, .val (.double (4598175219545276416 : UInt64)), .second, .val (.ref b33), .val (.double (FP.l2d xx)), .second, .val (.double (FP.dmul (FP.l2d xx) (4598175219545276416 : UInt64))), .second, .val (.int (1 : Int32)), .val (.ref b38), .unset, .unset, .unset] [(.ref b38)]))
    refine own_st (fun t k => XS.iloadN X44.here hx rfl (hb hby at_142) rfl k) ?_
    show own_Go p e below K (T44.setTop (mkF m 143 #[.val (.int q1), .val (.int q2), .val (.int q3), .val (.int q4), .val (.int aa), .val (.int kk), .val (.double (4703696862291427328 : UInt64)), .second, .val (.double (4598175219545276416 : UInt64)), .second, .val (.ref b33), .val (.double (FP.l2d xx)), .second, .val (.double (FP.dmul (FP.l2d xx) (4598175219545276416 : UInt64))), .second, .val (.int (1 : Int32)), .val (.ref b38), .unset, .unset, .unset] [(.int q1), (.ref b38)]))
    refine own_st (fun t k => XS.i2dS X44.here hx rfl (hb hby at_143) rfl (i2d_w q1) k) ?_
    show own_Go p e below K (T44.setTop (mkF m 144 #[.val (.int q1), .val (.int q2), .val (.int q3), .val (.int q4), .val (.int aa), .val (.int kk), .val (.double (4703696862291427328 : UInt64)), .second, .val (.double (4598175219545276416 : UInt64)), .second, .val (.ref b33), .val (.double (FP.l2d xx)), .second, .val (.double (FP.dmul (FP.l2d xx) (4598175219545276416 : UInt64))), .second, .val (.int (1 : Int32)), .val (.ref b38), .unset, .unset, .unset] [(.double (FP.l2d (q1).toInt64)), (.ref b38)]))
    obtain ⟨cq48, kq48, qv48a, qv48b, qv48c⟩ := isOf hZ rfl p44_0
    obtain ⟨_, _, ⟨T48, L48, k48, n48⟩, -, X48, ⟨Lc48, hQ48, l48, y48, z48⟩, st48⟩ := X44.virtualBack hx (y := (⟨"com/example/ms2rank/ms2rank/matching/MassTolerance", "lowestMatch", "(D)D"⟩ : MethodName)) (z := (⟨"com/example/ms2rank/ms2rank/matching/MassTolerance", "lowestMatch", "(D)D"⟩ : MethodName)) hown (mvT hZ (hw _ (List.mem_of_getElem? (i := 30) rfl))) (mvT hZ (hw _ (List.mem_of_getElem? (i := 31) rfl))) (notFace_of_selects (args := #[]) (mvT hZ (hw _ (List.mem_of_getElem? (i := 33) rfl)))) (mvT hZ (hw _ (List.mem_of_getElem? (i := 33) rfl))) (mvT hZ (hw _ (List.mem_of_getElem? (i := 32) rfl))) (by decide) (backOf (W := 0) (rm6 l Z a0 hw [] b38 (FP.l2d (q1).toInt64) ((FP.l2d (aa).toInt64)) ((FP.l2d (pp).toInt64)) (xx) T44.heap n0 Z44 p44_2 p44_1 (own_ds hxx) (own_m2 rfl hpb) (own_m3 rfl hpb) (own_m4 xx rfl hpb)) hZ (hw _ (List.mem_of_getElem? (i := 34) rfl)) (hw _ (List.mem_of_getElem? (i := 5) rfl)) (by decide) (by decide)) qv48a qv48c (g := (mkF m 144 #[.val (.int q1), .val (.int q2), .val (.int q3), .val (.int q4), .val (.int aa), .val (.int kk), .val (.double (4703696862291427328 : UInt64)), .second, .val (.double (4598175219545276416 : UInt64)), .second, .val (.ref b33), .val (.double (FP.l2d xx)), .second, .val (.double (FP.dmul (FP.l2d xx) (4598175219545276416 : UInt64))), .second, .val (.int (1 : Int32)), .val (.ref b38), .unset, .unset, .unset] [(.double (FP.l2d (q1).toInt64)), (.ref b38)])) rfl (by rw [hml]; rfl) (Steps.refl _) (argsL := [(.double (FP.l2d (q1).toInt64))]) (rest := []) (lenOf pd_0_3 rfl) rfl (by show 2 * 0 + _ ≤ _; exact Nat.le_of_eq rfl) (hb hby at_144) (fun _ _ => ⟨rfl, rfl, (by decide : 2 + 0 ≤ _), (by decide : 4 + 0 ≤ _)⟩)
    dsimp only [Pt.U, Pt.locs, Pt.cells, Pt.slots] at X48 l48 y48 z48 st48 hQ48
    obtain ⟨r48, rfl, hr48, N48q, e48⟩ := hQ48
    have N48 : Fr n0 L48 := by rw [l48]; exact Fr.app N44 N48q
    clear l48
    have y48' : k48 = 2 := y48
    have z48' : n48 = 4 := z48
    clear y48 z48
    subst y48' z48'
    refine own_tr st48 ?_
    show own_Go p e below K (T48.setTop (mkF m 147 #[.val (.int q1), .val (.int q2), .val (.int q3), .val (.int q4), .val (.int aa), .val (.int kk), .val (.double (4703696862291427328 : UInt64)), .second, .val (.double (4598175219545276416 : UInt64)), .second, .val (.ref b33), .val (.double (FP.l2d xx)), .second, .val (.double (FP.dmul (FP.l2d xx) (4598175219545276416 : UInt64))), .second, .val (.int (1 : Int32)), .val (.ref b38), .unset, .unset, .unset] [(.double r48)]))
    try clear X44 st48 N44 N48q
    refine own_st (fun t k => XS.dstore X48.here hx rfl (hb hby at_147) rfl (l' := #[.val (.int q1), .val (.int q2), .val (.int q3), .val (.int q4), .val (.int aa), .val (.int kk), .val (.double (4703696862291427328 : UInt64)), .second, .val (.double (4598175219545276416 : UInt64)), .second, .val (.ref b33), .val (.double (FP.l2d xx)), .second, .val (.double (FP.dmul (FP.l2d xx) (4598175219545276416 : UInt64))), .second, .val (.int (1 : Int32)), .val (.ref b38), .val (.double r48), .second, .unset]) rfl k) ?_
    show own_Go p e below K (T48.setTop (mkF m 149 #[.val (.int q1), .val (.int q2), .val (.int q3), .val (.int q4), .val (.int aa), .val (.int kk), .val (.double (4703696862291427328 : UInt64)), .second, .val (.double (4598175219545276416 : UInt64)), .second, .val (.ref b33), .val (.double (FP.l2d xx)), .second, .val (.double (FP.dmul (FP.l2d xx) (4598175219545276416 : UInt64))), .second, .val (.int (1 : Int32)), .val (.ref b38), .val (.double r48), .second, .unset] []))
    refine own_st (fun t k => XS.dload X48.here hx rfl (hb hby at_149) rfl k) ?_
    show own_Go p e below K (T48.setTop (mkF m 151 #[.val (.int q1), .val (.int q2), .val (.int q3), .val (.int q4), .val (.int aa), .val (.int kk), .val (.double (4703696862291427328 : UInt64)), .second, .val (.double (4598175219545276416 : UInt64)), .second, .val (.ref b33), .val (.double (FP.l2d xx)), .second, .val (.double (FP.dmul (FP.l2d xx) (4598175219545276416 : UInt64))), .second, .val (.int (1 : Int32)), .val (.ref b38), .val (.double r48), .second, .unset] [(.double (FP.l2d xx))]))
    refine own_st (fun t k => XS.dconst0 X48.here hx rfl (hb hby at_151) rfl k) ?_
    show own_Go p e below K (T48.setTop (mkF m 152 #[.val (.int q1), .val (.int q2), .val (.int q3), .val (.int q4), .val (.int aa), .val (.int kk), .val (.double (4703696862291427328 : UInt64)), .second, .val (.double (4598175219545276416 : UInt64)), .second, .val (.ref b33), .val (.double (FP.l2d xx)), .second, .val (.double (FP.dmul (FP.l2d xx) (4598175219545276416 : UInt64))), .second, .val (.int (1 : Int32)), .val (.ref b38), .val (.double r48), .second, .unset] [(.double FP.dconst0), (.double (FP.l2d xx))]))
    refine own_st (fun t k => XS.dcmpS X48.here hx rfl (hb hby at_152) rfl (own_lc rfl hxb .l) k) ?_
    show own_Go p e below K (T48.setTop (mkF m 153 #[.val (.int q1), .val (.int q2), .val (.int q3), .val (.int q4), .val (.int aa), .val (.int kk), .val (.double (4703696862291427328 : UInt64)), .second, .val (.double (4598175219545276416 : UInt64)), .second, .val (.ref b33), .val (.double (FP.l2d xx)), .second, .val (.double (FP.dmul (FP.l2d xx) (4598175219545276416 : UInt64))), .second, .val (.int (1 : Int32)), .val (.ref b38), .val (.double r48), .second, .unset] [(.int (lcmpW xx (0 : Int64)))]))
    by_cases hc153 : xx < (0 : Int64)
    · refine own_st (fun t k => XS.ifYes X48.here hx rfl (pc0 := 153) (pc' := 181) rfl (hb hby at_153) rfl ((if0 _ _).trans (tlt ((lw_lt xx (0 : Int64)).mpr hc153)).1) (by decide) (by decide) k) ?_
      show own_Go p e below K (T48.setTop (mkF m 181 #[.val (.int q1), .val (.int q2), .val (.int q3), .val (.int q4), .val (.int aa), .val (.int kk), .val (.double (4703696862291427328 : UInt64)), .second, .val (.double (4598175219545276416 : UInt64)), .second, .val (.ref b33), .val (.double (FP.l2d xx)), .second, .val (.double (FP.dmul (FP.l2d xx) (4598175219545276416 : UInt64))), .second, .val (.int (1 : Int32)), .val (.ref b38), .val (.double r48), .second, .unset] []))
      refine own_st (fun t k => XS.dload X48.here hx rfl (hb hby at_181) rfl k) ?_
      show own_Go p e below K (T48.setTop (mkF m 183 #[.val (.int q1), .val (.int q2), .val (.int q3), .val (.int q4), .val (.int aa), .val (.int kk), .val (.double (4703696862291427328 : UInt64)), .second, .val (.double (4598175219545276416 : UInt64)), .second, .val (.ref b33), .val (.double (FP.l2d xx)), .second, .val (.double (FP.dmul (FP.l2d xx) (4598175219545276416 : UInt64))), .second, .val (.int (1 : Int32)), .val (.ref b38), .val (.double r48), .second, .unset] [(.double (FP.l2d xx))]))
      refine own_st (fun t k => XS.dload X48.here hx rfl (hb hby at_183) rfl k) ?_
      show own_Go p e below K (T48.setTop (mkF m 185 #[.val (.int q1), .val (.int q2), .val (.int q3), .val (.int q4), .val (.int aa), .val (.int kk), .val (.double (4703696862291427328 : UInt64)), .second, .val (.double (4598175219545276416 : UInt64)), .second, .val (.ref b33), .val (.double (FP.l2d xx)), .second, .val (.double (FP.dmul (FP.l2d xx) (4598175219545276416 : UInt64))), .second, .val (.int (1 : Int32)), .val (.ref b38), .val (.double r48), .second, .unset] [(.double r48), (.double (FP.l2d xx))]))
      refine own_st (fun t k => XS.dcmpS X48.here hx rfl (hb hby at_185) rfl rfl k) ?_
      show own_Go p e below K (T48.setTop (mkF m 186 #[.val (.int q1), .val (.int q2), .val (.int q3), .val (.int q4), .val (.int aa), .val (.int kk), .val (.double (4703696862291427328 : UInt64)), .second, .val (.double (4598175219545276416 : UInt64)), .second, .val (.ref b33), .val (.double (FP.l2d xx)), .second, .val (.double (FP.dmul (FP.l2d xx) (4598175219545276416 : UInt64))), .second, .val (.int (1 : Int32)), .val (.ref b38), .val (.double r48), .second, .unset] [(.int (cmpValue (FP.dcmp (FP.l2d xx) r48) .g))]))
      refine own_st (fun t k => XS.ifNo X48.here hx rfl (hb hby at_186) rfl ((if0 _ _).trans (flt (own_ng (hr48 ▸ ((own_bnd (x := xx) (own_g rfl hpb)).2 (own_x1 hc153)).1) : ¬ ((0 : Int32) < (cmpValue (FP.dcmp (FP.l2d xx) r48) .g)))).2.2.1) k) ?_
      show own_Go p e below K (T48.setTop (mkF m 189 #[.val (.int q1), .val (.int q2), .val (.int q3), .val (.int q4), .val (.int aa), .val (.int kk), .val (.double (4703696862291427328 : UInt64)), .second, .val (.double (4598175219545276416 : UInt64)), .second, .val (.ref b33), .val (.double (FP.l2d xx)), .second, .val (.double (FP.dmul (FP.l2d xx) (4598175219545276416 : UInt64))), .second, .val (.int (1 : Int32)), .val (.ref b38), .val (.double r48), .second, .unset] []))
      refine own_st (fun t k => XS.dload X48.here hx rfl (hb hby at_189) rfl k) ?_
      show own_Go p e below K (T48.setTop (mkF m 191 #[.val (.int q1), .val (.int q2), .val (.int q3), .val (.int q4), .val (.int aa), .val (.int kk), .val (.double (4703696862291427328 : UInt64)), .second, .val (.double (4598175219545276416 : UInt64)), .second, .val (.ref b33), .val (.double (FP.l2d xx)), .second, .val (.double (FP.dmul (FP.l2d xx) (4598175219545276416 : UInt64))), .second, .val (.int (1 : Int32)), .val (.ref b38), .val (.double r48), .second, .unset] [(.double r48)]))
      refine own_st (fun t k => XS.dconst0 X48.here hx rfl (hb hby at_191) rfl k) ?_
      show own_Go p e below K (T48.setTop (mkF m 192 #[.val (.int q1), .val (.int q2), .val (.int q3), .val (.int q4), .val (.int aa), .val (.int kk), .val (.double (4703696862291427328 : UInt64)), .second, .val (.double (4598175219545276416 : UInt64)), .second, .val (.ref b33), .val (.double (FP.l2d xx)), .second, .val (.double (FP.dmul (FP.l2d xx) (4598175219545276416 : UInt64))), .second, .val (.int (1 : Int32)), .val (.ref b38), .val (.double r48), .second, .unset] [(.double FP.dconst0), (.double r48)]))
      refine own_st (fun t k => XS.dcmpS X48.here hx rfl (hb hby at_192) rfl rfl k) ?_
      show own_Go p e below K (T48.setTop (mkF m 193 #[.val (.int q1), .val (.int q2), .val (.int q3), .val (.int q4), .val (.int aa), .val (.int kk), .val (.double (4703696862291427328 : UInt64)), .second, .val (.double (4598175219545276416 : UInt64)), .second, .val (.ref b33), .val (.double (FP.l2d xx)), .second, .val (.double (FP.dmul (FP.l2d xx) (4598175219545276416 : UInt64))), .second, .val (.int (1 : Int32)), .val (.ref b38), .val (.double r48), .second, .unset] [(.int (cmpValue (FP.dcmp r48 FP.dconst0) .g))]))
      refine own_st (fun t k => XS.ifNo X48.here hx rfl (hb hby at_193) rfl ((if0 _ _).trans (flt (own_ng (hr48 ▸ ((own_bnd (x := xx) (own_g rfl hpb)).2 (own_x1 hc153)).2) : ¬ ((0 : Int32) < (cmpValue (FP.dcmp r48 FP.dconst0) .g)))).2.2.1) k) ?_
      show own_Go p e below K (T48.setTop (mkF m 196 #[.val (.int q1), .val (.int q2), .val (.int q3), .val (.int q4), .val (.int aa), .val (.int kk), .val (.double (4703696862291427328 : UInt64)), .second, .val (.double (4598175219545276416 : UInt64)), .second, .val (.ref b33), .val (.double (FP.l2d xx)), .second, .val (.double (FP.dmul (FP.l2d xx) (4598175219545276416 : UInt64))), .second, .val (.int (1 : Int32)), .val (.ref b38), .val (.double r48), .second, .unset] []))
      refine own_st (fun t k => XS.iconst X48.here hx rfl (hb hby at_196) k) ?_
      show own_Go p e below K (T48.setTop (mkF m 197 #[.val (.int q1), .val (.int q2), .val (.int q3), .val (.int q4), .val (.int aa), .val (.int kk), .val (.double (4703696862291427328 : UInt64)), .second, .val (.double (4598175219545276416 : UInt64)), .second, .val (.ref b33), .val (.double (FP.l2d xx)), .second, .val (.double (FP.dmul (FP.l2d xx) (4598175219545276416 : UInt64))), .second, .val (.int (1 : Int32)), .val (.ref b38), .val (.double r48), .second, .unset] [(.int (1 : Int32))]))
      refine own_st (fun t k => XS.goto X48.here hx rfl (pc0 := 197) (pc' := 201) rfl (hb hby at_197) (by decide) (by decide) k) ?_
      show own_Go p e below K (T48.setTop (mkF m 201 #[.val (.int q1), .val (.int q2), .val (.int q3), .val (.int q4), .val (.int aa), .val (.int kk), .val (.double (4703696862291427328 : UInt64)), .second, .val (.double (4598175219545276416 : UInt64)), .second, .val (.ref b33), .val (.double (FP.l2d xx)), .second, .val (.double (FP.dmul (FP.l2d xx) (4598175219545276416 : UInt64))), .second, .val (.int (1 : Int32)), .val (.ref b38), .val (.double r48), .second, .unset] [(.int (1 : Int32))]))
      refine own_st (fun t k => XS.istore X48.here hx rfl (hb hby at_201) rfl (l' := #[.val (.int q1), .val (.int q2), .val (.int q3), .val (.int q4), .val (.int aa), .val (.int kk), .val (.double (4703696862291427328 : UInt64)), .second, .val (.double (4598175219545276416 : UInt64)), .second, .val (.ref b33), .val (.double (FP.l2d xx)), .second, .val (.double (FP.dmul (FP.l2d xx) (4598175219545276416 : UInt64))), .second, .val (.int (1 : Int32)), .val (.ref b38), .val (.double r48), .second, .val (.int (1 : Int32))]) rfl k) ?_
      show own_Go p e below K (T48.setTop (mkF m 203 #[.val (.int q1), .val (.int q2), .val (.int q3), .val (.int q4), .val (.int aa), .val (.int kk), .val (.double (4703696862291427328 : UInt64)), .second, .val (.double (4598175219545276416 : UInt64)), .second, .val (.ref b33), .val (.double (FP.l2d xx)), .second, .val (.double (FP.dmul (FP.l2d xx) (4598175219545276416 : UInt64))), .second, .val (.int (1 : Int32)), .val (.ref b38), .val (.double r48), .second, .val (.int (1 : Int32))] []))
      refine own_st (fun t k => XS.iload X48.here hx rfl (hb hby at_203) rfl k) ?_
      show own_Go p e below K (T48.setTop (mkF m 205 #[.val (.int q1), .val (.int q2), .val (.int q3), .val (.int q4), .val (.int aa), .val (.int kk), .val (.double (4703696862291427328 : UInt64)), .second, .val (.double (4598175219545276416 : UInt64)), .second, .val (.ref b33), .val (.double (FP.l2d xx)), .second, .val (.double (FP.dmul (FP.l2d xx) (4598175219545276416 : UInt64))), .second, .val (.int (1 : Int32)), .val (.ref b38), .val (.double r48), .second, .val (.int (1 : Int32))] [(.int (1 : Int32))]))
      refine own_st (fun t k => XS.ifNo X48.here hx rfl (hb hby at_205) rfl ((if0 _ _).trans (feq (by decide : ¬ ((1 : Int32) = (0 : Int32)))).1) k) ?_
      show own_Go p e below K (T48.setTop (mkF m 208 #[.val (.int q1), .val (.int q2), .val (.int q3), .val (.int q4), .val (.int aa), .val (.int kk), .val (.double (4703696862291427328 : UInt64)), .second, .val (.double (4598175219545276416 : UInt64)), .second, .val (.ref b33), .val (.double (FP.l2d xx)), .second, .val (.double (FP.dmul (FP.l2d xx) (4598175219545276416 : UInt64))), .second, .val (.int (1 : Int32)), .val (.ref b38), .val (.double r48), .second, .val (.int (1 : Int32))] []))
      refine own_st (fun t k => XS.iload X48.here hx rfl (hb hby at_208) rfl k) ?_
      show own_Go p e below K (T48.setTop (mkF m 210 #[.val (.int q1), .val (.int q2), .val (.int q3), .val (.int q4), .val (.int aa), .val (.int kk), .val (.double (4703696862291427328 : UInt64)), .second, .val (.double (4598175219545276416 : UInt64)), .second, .val (.ref b33), .val (.double (FP.l2d xx)), .second, .val (.double (FP.dmul (FP.l2d xx) (4598175219545276416 : UInt64))), .second, .val (.int (1 : Int32)), .val (.ref b38), .val (.double r48), .second, .val (.int (1 : Int32))] [(.int (1 : Int32))]))
      refine own_st (fun t k => XS.ifNo X48.here hx rfl (hb hby at_210) rfl ((if0 _ _).trans (feq (by decide : ¬ ((1 : Int32) = (0 : Int32)))).1) k) ?_
      show own_Go p e below K (T48.setTop (mkF m 213 #[.val (.int q1), .val (.int q2), .val (.int q3), .val (.int q4), .val (.int aa), .val (.int kk), .val (.double (4703696862291427328 : UInt64)), .second, .val (.double (4598175219545276416 : UInt64)), .second, .val (.ref b33), .val (.double (FP.l2d xx)), .second, .val (.double (FP.dmul (FP.l2d xx) (4598175219545276416 : UInt64))), .second, .val (.int (1 : Int32)), .val (.ref b38), .val (.double r48), .second, .val (.int (1 : Int32))] []))
      refine own_st (fun t k => XS.iconst X48.here hx rfl (hb hby at_213) k) ?_
      show own_Go p e below K (T48.setTop (mkF m 214 #[.val (.int q1), .val (.int q2), .val (.int q3), .val (.int q4), .val (.int aa), .val (.int kk), .val (.double (4703696862291427328 : UInt64)), .second, .val (.double (4598175219545276416 : UInt64)), .second, .val (.ref b33), .val (.double (FP.l2d xx)), .second, .val (.double (FP.dmul (FP.l2d xx) (4598175219545276416 : UInt64))), .second, .val (.int (1 : Int32)), .val (.ref b38), .val (.double r48), .second, .val (.int (1 : Int32))] [(.int (1 : Int32))]))
      refine own_st (fun t k => XS.goto X48.here hx rfl (pc0 := 214) (pc' := 218) rfl (hb hby at_214) (by decide) (by decide) k) ?_
      show own_Go p e below K (T48.setTop (mkF m 218 #[.val (.int q1), .val (.int q2), .val (.int q3), .val (.int q4), .val (.int aa), .val (.int kk), .val (.double (4703696862291427328 : UInt64)), .second, .val (.double (4598175219545276416 : UInt64)), .second, .val (.ref b33), .val (.double (FP.l2d xx)), .second, .val (.double (FP.dmul (FP.l2d xx) (4598175219545276416 : UInt64))), .second, .val (.int (1 : Int32)), .val (.ref b38), .val (.double r48), .second, .val (.int (1 : Int32))] [(.int (1 : Int32))]))
      obtain ⟨fs, hr, hrun, hended, hW, hsame⟩ := X48.leave (v := some (.int (nar .boolean (1 : Int32)))) (fun h => by rw [Bd.returns] at h; cases h)
      refine ⟨_, retN X48 hx (t := .boolean) Bd.returns (by simp) (hb hby at_218) hr, fin _ _ _ hrun hended ?_ ⟨⟨_, rfl⟩, hW, hsame.mono (by decide) (by decide)⟩⟩
      show Q0 Z q1 q2 q3 q4 h0 n0 _ T48.heap _
      rw [e48]
      exact ⟨rfl, N48⟩
    refine own_st (fun t k => XS.ifNo X48.here hx rfl (hb hby at_153) rfl ((if0 _ _).trans (flt (fun q => hc153 ((lw_lt xx (0 : Int64)).mp q))).1) k) ?_
    show own_Go p e below K (T48.setTop (mkF m 156 #[.val (.int q1), .val (.int q2), .val (.int q3), .val (.int q4), .val (.int aa), .val (.int kk), .val (.double (4703696862291427328 : UInt64)), .second, .val (.double (4598175219545276416 : UInt64)), .second, .val (.ref b33), .val (.double (FP.l2d xx)), .second, .val (.double (FP.dmul (FP.l2d xx) (4598175219545276416 : UInt64))), .second, .val (.int (1 : Int32)), .val (.ref b38), .val (.double r48), .second, .unset] []))
    refine own_st (fun t k => XS.dconst0 X48.here hx rfl (hb hby at_156) rfl k) ?_
    show own_Go p e below K (T48.setTop (mkF m 157 #[.val (.int q1), .val (.int q2), .val (.int q3), .val (.int q4), .val (.int aa), .val (.int kk), .val (.double (4703696862291427328 : UInt64)), .second, .val (.double (4598175219545276416 : UInt64)), .second, .val (.ref b33), .val (.double (FP.l2d xx)), .second, .val (.double (FP.dmul (FP.l2d xx) (4598175219545276416 : UInt64))), .second, .val (.int (1 : Int32)), .val (.ref b38), .val (.double r48), .second, .unset] [(.double FP.dconst0)]))
    refine own_st (fun t k => XS.dload X48.here hx rfl (hb hby at_157) rfl k) ?_
    show own_Go p e below K (T48.setTop (mkF m 159 #[.val (.int q1), .val (.int q2), .val (.int q3), .val (.int q4), .val (.int aa), .val (.int kk), .val (.double (4703696862291427328 : UInt64)), .second, .val (.double (4598175219545276416 : UInt64)), .second, .val (.ref b33), .val (.double (FP.l2d xx)), .second, .val (.double (FP.dmul (FP.l2d xx) (4598175219545276416 : UInt64))), .second, .val (.int (1 : Int32)), .val (.ref b38), .val (.double r48), .second, .unset] [(.double r48), (.double FP.dconst0)]))
    refine own_st (fun t k => XS.dcmpS X48.here hx rfl (hb hby at_159) rfl rfl k) ?_
    show own_Go p e below K (T48.setTop (mkF m 160 #[.val (.int q1), .val (.int q2), .val (.int q3), .val (.int q4), .val (.int aa), .val (.int kk), .val (.double (4703696862291427328 : UInt64)), .second, .val (.double (4598175219545276416 : UInt64)), .second, .val (.ref b33), .val (.double (FP.l2d xx)), .second, .val (.double (FP.dmul (FP.l2d xx) (4598175219545276416 : UInt64))), .second, .val (.int (1 : Int32)), .val (.ref b38), .val (.double r48), .second, .unset] [(.int (cmpValue (FP.dcmp FP.dconst0 r48) .g))]))
    refine own_st (fun t k => XS.ifNo X48.here hx rfl (hb hby at_160) rfl ((if0 _ _).trans (flt (own_ng (hr48 ▸ ((own_bnd (x := xx) (own_g rfl hpb)).1 (own_x0 hc153)).1) : ¬ ((0 : Int32) < (cmpValue (FP.dcmp FP.dconst0 r48) .g)))).2.2.1) k) ?_
    show own_Go p e below K (T48.setTop (mkF m 163 #[.val (.int q1), .val (.int q2), .val (.int q3), .val (.int q4), .val (.int aa), .val (.int kk), .val (.double (4703696862291427328 : UInt64)), .second, .val (.double (4598175219545276416 : UInt64)), .second, .val (.ref b33), .val (.double (FP.l2d xx)), .second, .val (.double (FP.dmul (FP.l2d xx) (4598175219545276416 : UInt64))), .second, .val (.int (1 : Int32)), .val (.ref b38), .val (.double r48), .second, .unset] []))
    refine own_st (fun t k => XS.dload X48.here hx rfl (hb hby at_163) rfl k) ?_
    show own_Go p e below K (T48.setTop (mkF m 165 #[.val (.int q1), .val (.int q2), .val (.int q3), .val (.int q4), .val (.int aa), .val (.int kk), .val (.double (4703696862291427328 : UInt64)), .second, .val (.double (4598175219545276416 : UInt64)), .second, .val (.ref b33), .val (.double (FP.l2d xx)), .second, .val (.double (FP.dmul (FP.l2d xx) (4598175219545276416 : UInt64))), .second, .val (.int (1 : Int32)), .val (.ref b38), .val (.double r48), .second, .unset] [(.double r48)]))
    refine own_st (fun t k => XS.dload X48.here hx rfl (hb hby at_165) rfl k) ?_
    show own_Go p e below K (T48.setTop (mkF m 167 #[.val (.int q1), .val (.int q2), .val (.int q3), .val (.int q4), .val (.int aa), .val (.int kk), .val (.double (4703696862291427328 : UInt64)), .second, .val (.double (4598175219545276416 : UInt64)), .second, .val (.ref b33), .val (.double (FP.l2d xx)), .second, .val (.double (FP.dmul (FP.l2d xx) (4598175219545276416 : UInt64))), .second, .val (.int (1 : Int32)), .val (.ref b38), .val (.double r48), .second, .unset] [(.double (FP.l2d xx)), (.double r48)]))
    refine own_st (fun t k => XS.dcmpS X48.here hx rfl (hb hby at_167) rfl rfl k) ?_
    show own_Go p e below K (T48.setTop (mkF m 168 #[.val (.int q1), .val (.int q2), .val (.int q3), .val (.int q4), .val (.int aa), .val (.int kk), .val (.double (4703696862291427328 : UInt64)), .second, .val (.double (4598175219545276416 : UInt64)), .second, .val (.ref b33), .val (.double (FP.l2d xx)), .second, .val (.double (FP.dmul (FP.l2d xx) (4598175219545276416 : UInt64))), .second, .val (.int (1 : Int32)), .val (.ref b38), .val (.double r48), .second, .unset] [(.int (cmpValue (FP.dcmp r48 (FP.l2d xx)) .g))]))
    refine own_st (fun t k => XS.ifNo X48.here hx rfl (hb hby at_168) rfl ((if0 _ _).trans (flt (own_ng (hr48 ▸ ((own_bnd (x := xx) (own_g rfl hpb)).1 (own_x0 hc153)).2) : ¬ ((0 : Int32) < (cmpValue (FP.dcmp r48 (FP.l2d xx)) .g)))).2.2.1) k) ?_
    show own_Go p e below K (T48.setTop (mkF m 171 #[.val (.int q1), .val (.int q2), .val (.int q3), .val (.int q4), .val (.int aa), .val (.int kk), .val (.double (4703696862291427328 : UInt64)), .second, .val (.double (4598175219545276416 : UInt64)), .second, .val (.ref b33), .val (.double (FP.l2d xx)), .second, .val (.double (FP.dmul (FP.l2d xx) (4598175219545276416 : UInt64))), .second, .val (.int (1 : Int32)), .val (.ref b38), .val (.double r48), .second, .unset] []))
    refine own_st (fun t k => XS.iconst X48.here hx rfl (hb hby at_171) k) ?_
    show own_Go p e below K (T48.setTop (mkF m 172 #[.val (.int q1), .val (.int q2), .val (.int q3), .val (.int q4), .val (.int aa), .val (.int kk), .val (.double (4703696862291427328 : UInt64)), .second, .val (.double (4598175219545276416 : UInt64)), .second, .val (.ref b33), .val (.double (FP.l2d xx)), .second, .val (.double (FP.dmul (FP.l2d xx) (4598175219545276416 : UInt64))), .second, .val (.int (1 : Int32)), .val (.ref b38), .val (.double r48), .second, .unset] [(.int (1 : Int32))]))
    refine own_st (fun t k => XS.goto X48.here hx rfl (pc0 := 172) (pc' := 176) rfl (hb hby at_172) (by decide) (by decide) k) ?_
    show own_Go p e below K (T48.setTop (mkF m 176 #[.val (.int q1), .val (.int q2), .val (.int q3), .val (.int q4), .val (.int aa), .val (.int kk), .val (.double (4703696862291427328 : UInt64)), .second, .val (.double (4598175219545276416 : UInt64)), .second, .val (.ref b33), .val (.double (FP.l2d xx)), .second, .val (.double (FP.dmul (FP.l2d xx) (4598175219545276416 : UInt64))), .second, .val (.int (1 : Int32)), .val (.ref b38), .val (.double r48), .second, .unset] [(.int (1 : Int32))]))
    refine own_st (fun t k => XS.istore X48.here hx rfl (hb hby at_176) rfl (l' := #[.val (.int q1), .val (.int q2), .val (.int q3), .val (.int q4), .val (.int aa), .val (.int kk), .val (.double (4703696862291427328 : UInt64)), .second, .val (.double (4598175219545276416 : UInt64)), .second, .val (.ref b33), .val (.double (FP.l2d xx)), .second, .val (.double (FP.dmul (FP.l2d xx) (4598175219545276416 : UInt64))), .second, .val (.int (1 : Int32)), .val (.ref b38), .val (.double r48), .second, .val (.int (1 : Int32))]) rfl k) ?_
    show own_Go p e below K (T48.setTop (mkF m 178 #[.val (.int q1), .val (.int q2), .val (.int q3), .val (.int q4), .val (.int aa), .val (.int kk), .val (.double (4703696862291427328 : UInt64)), .second, .val (.double (4598175219545276416 : UInt64)), .second, .val (.ref b33), .val (.double (FP.l2d xx)), .second, .val (.double (FP.dmul (FP.l2d xx) (4598175219545276416 : UInt64))), .second, .val (.int (1 : Int32)), .val (.ref b38), .val (.double r48), .second, .val (.int (1 : Int32))] []))
    refine own_st (fun t k => XS.goto X48.here hx rfl (pc0 := 178) (pc' := 203) rfl (hb hby at_178) (by decide) (by decide) k) ?_
    show own_Go p e below K (T48.setTop (mkF m 203 #[.val (.int q1), .val (.int q2), .val (.int q3), .val (.int q4), .val (.int aa), .val (.int kk), .val (.double (4703696862291427328 : UInt64)), .second, .val (.double (4598175219545276416 : UInt64)), .second, .val (.ref b33), .val (.double (FP.l2d xx)), .second, .val (.double (FP.dmul (FP.l2d xx) (4598175219545276416 : UInt64))), .second, .val (.int (1 : Int32)), .val (.ref b38), .val (.double r48), .second, .val (.int (1 : Int32))] []))
    refine own_st (fun t k => XS.iload X48.here hx rfl (hb hby at_203) rfl k) ?_
    show own_Go p e below K (T48.setTop (mkF m 205 #[.val (.int q1), .val (.int q2), .val (.int q3), .val (.int q4), .val (.int aa), .val (.int kk), .val (.double (4703696862291427328 : UInt64)), .second, .val (.double (4598175219545276416 : UInt64)), .second, .val (.ref b33), .val (.double (FP.l2d xx)), .second, .val (.double (FP.dmul (FP.l2d xx) (4598175219545276416 : UInt64))), .second, .val (.int (1 : Int32)), .val (.ref b38), .val (.double r48), .second, .val (.int (1 : Int32))] [(.int (1 : Int32))]))
    refine own_st (fun t k => XS.ifNo X48.here hx rfl (hb hby at_205) rfl ((if0 _ _).trans (feq (by decide : ¬ ((1 : Int32) = (0 : Int32)))).1) k) ?_
    show own_Go p e below K (T48.setTop (mkF m 208 #[.val (.int q1), .val (.int q2), .val (.int q3), .val (.int q4), .val (.int aa), .val (.int kk), .val (.double (4703696862291427328 : UInt64)), .second, .val (.double (4598175219545276416 : UInt64)), .second, .val (.ref b33), .val (.double (FP.l2d xx)), .second, .val (.double (FP.dmul (FP.l2d xx) (4598175219545276416 : UInt64))), .second, .val (.int (1 : Int32)), .val (.ref b38), .val (.double r48), .second, .val (.int (1 : Int32))] []))
    refine own_st (fun t k => XS.iload X48.here hx rfl (hb hby at_208) rfl k) ?_
    show own_Go p e below K (T48.setTop (mkF m 210 #[.val (.int q1), .val (.int q2), .val (.int q3), .val (.int q4), .val (.int aa), .val (.int kk), .val (.double (4703696862291427328 : UInt64)), .second, .val (.double (4598175219545276416 : UInt64)), .second, .val (.ref b33), .val (.double (FP.l2d xx)), .second, .val (.double (FP.dmul (FP.l2d xx) (4598175219545276416 : UInt64))), .second, .val (.int (1 : Int32)), .val (.ref b38), .val (.double r48), .second, .val (.int (1 : Int32))] [(.int (1 : Int32))]))
    refine own_st (fun t k => XS.ifNo X48.here hx rfl (hb hby at_210) rfl ((if0 _ _).trans (feq (by decide : ¬ ((1 : Int32) = (0 : Int32)))).1) k) ?_
    show own_Go p e below K (T48.setTop (mkF m 213 #[.val (.int q1), .val (.int q2), .val (.int q3), .val (.int q4), .val (.int aa), .val (.int kk), .val (.double (4703696862291427328 : UInt64)), .second, .val (.double (4598175219545276416 : UInt64)), .second, .val (.ref b33), .val (.double (FP.l2d xx)), .second, .val (.double (FP.dmul (FP.l2d xx) (4598175219545276416 : UInt64))), .second, .val (.int (1 : Int32)), .val (.ref b38), .val (.double r48), .second, .val (.int (1 : Int32))] []))
    refine own_st (fun t k => XS.iconst X48.here hx rfl (hb hby at_213) k) ?_
    show own_Go p e below K (T48.setTop (mkF m 214 #[.val (.int q1), .val (.int q2), .val (.int q3), .val (.int q4), .val (.int aa), .val (.int kk), .val (.double (4703696862291427328 : UInt64)), .second, .val (.double (4598175219545276416 : UInt64)), .second, .val (.ref b33), .val (.double (FP.l2d xx)), .second, .val (.double (FP.dmul (FP.l2d xx) (4598175219545276416 : UInt64))), .second, .val (.int (1 : Int32)), .val (.ref b38), .val (.double r48), .second, .val (.int (1 : Int32))] [(.int (1 : Int32))]))
    refine own_st (fun t k => XS.goto X48.here hx rfl (pc0 := 214) (pc' := 218) rfl (hb hby at_214) (by decide) (by decide) k) ?_
    show own_Go p e below K (T48.setTop (mkF m 218 #[.val (.int q1), .val (.int q2), .val (.int q3), .val (.int q4), .val (.int aa), .val (.int kk), .val (.double (4703696862291427328 : UInt64)), .second, .val (.double (4598175219545276416 : UInt64)), .second, .val (.ref b33), .val (.double (FP.l2d xx)), .second, .val (.double (FP.dmul (FP.l2d xx) (4598175219545276416 : UInt64))), .second, .val (.int (1 : Int32)), .val (.ref b38), .val (.double r48), .second, .val (.int (1 : Int32))] [(.int (1 : Int32))]))
    obtain ⟨fs, hr, hrun, hended, hW, hsame⟩ := X48.leave (v := some (.int (nar .boolean (1 : Int32)))) (fun h => by rw [Bd.returns] at h; cases h)
    refine ⟨_, retN X48 hx (t := .boolean) Bd.returns (by simp) (hb hby at_218) hr, fin _ _ _ hrun hended ?_ ⟨⟨_, rfl⟩, hW, hsame.mono (by decide) (by decide)⟩⟩
    show Q0 Z q1 q2 q3 q4 h0 n0 _ T48.heap _
    rw [e48]
    exact ⟨rfl, N48⟩
  refine own_st (fun t k => XS.icmpYes X0.here hx rfl (pc0 := 47) (pc' := 63) rfl (hb hby at_47) rfl (feq hc47).2 (by decide) (by decide) k) ?_
  show own_Go p e below K (s₁.setTop (mkF m 63 #[.val (.int q1), .val (.int q2), .val (.int q3), .val (.int q4), .val (.int aa), .val (.int kk), .unset, .unset, .unset, .unset, .unset, .unset, .unset, .unset, .unset, .unset, .unset, .unset, .unset, .unset] []))
  refine own_st (X0.ldc2DoubleC hx hown (mvT hZ (hw _ (List.mem_of_getElem? (i := 37) rfl))) (g := (mkF m 63 #[.val (.int q1), .val (.int q2), .val (.int q3), .val (.int q4), .val (.int aa), .val (.int kk), .unset, .unset, .unset, .unset, .unset, .unset, .unset, .unset, .unset, .unset, .unset, .unset, .unset, .unset] [])) rfl (hb hby at_63)) ?_
  show own_Go p e below K (s₁.setTop (mkF m 66 #[.val (.int q1), .val (.int q2), .val (.int q3), .val (.int q4), .val (.int aa), .val (.int kk), .unset, .unset, .unset, .unset, .unset, .unset, .unset, .unset, .unset, .unset, .unset, .unset, .unset, .unset] [(.double (4709274203742797824 : UInt64))]))
  refine own_st (fun t k => XS.dstore X0.here hx rfl (hb hby at_66) rfl (l' := #[.val (.int q1), .val (.int q2), .val (.int q3), .val (.int q4), .val (.int aa), .val (.int kk), .val (.double (4709274203742797824 : UInt64)), .second, .unset, .unset, .unset, .unset, .unset, .unset, .unset, .unset, .unset, .unset, .unset, .unset]) rfl k) ?_
  show own_Go p e below K (s₁.setTop (mkF m 68 #[.val (.int q1), .val (.int q2), .val (.int q3), .val (.int q4), .val (.int aa), .val (.int kk), .val (.double (4709274203742797824 : UInt64)), .second, .unset, .unset, .unset, .unset, .unset, .unset, .unset, .unset, .unset, .unset, .unset, .unset] []))
  refine own_st (X0.ldc2DoubleC hx hown (mvT hZ (hw _ (List.mem_of_getElem? (i := 38) rfl))) (g := (mkF m 68 #[.val (.int q1), .val (.int q2), .val (.int q3), .val (.int q4), .val (.int aa), .val (.int kk), .val (.double (4709274203742797824 : UInt64)), .second, .unset, .unset, .unset, .unset, .unset, .unset, .unset, .unset, .unset, .unset, .unset, .unset] [])) rfl (hb hby at_68)) ?_
  show own_Go p e below K (s₁.setTop (mkF m 71 #[.val (.int q1), .val (.int q2), .val (.int q3), .val (.int q4), .val (.int aa), .val (.int kk), .val (.double (4709274203742797824 : UInt64)), .second, .unset, .unset, .unset, .unset, .unset, .unset, .unset, .unset, .unset, .unset, .unset, .unset] [(.double (4593671619917905920 : UInt64))]))
  refine own_st (fun t k => XS.dstore X0.here hx rfl (hb hby at_71) rfl (l' := #[.val (.int q1), .val (.int q2), .val (.int q3), .val (.int q4), .val (.int aa), .val (.int kk), .val (.double (4709274203742797824 : UInt64)), .second, .val (.double (4593671619917905920 : UInt64)), .second, .unset, .unset, .unset, .unset, .unset, .unset, .unset, .unset, .unset, .unset]) rfl k) ?_
  show own_Go p e below K (s₁.setTop (mkF m 73 #[.val (.int q1), .val (.int q2), .val (.int q3), .val (.int q4), .val (.int aa), .val (.int kk), .val (.double (4709274203742797824 : UInt64)), .second, .val (.double (4593671619917905920 : UInt64)), .second, .unset, .unset, .unset, .unset, .unset, .unset, .unset, .unset, .unset, .unset] []))
  obtain ⟨T49, h49, X49, e49, E49, A49, D49, -, st49⟩ := newO X0 hx hZ hown (hw _ (List.mem_of_getElem? (i := 3) rfl)) (hw _ (List.mem_of_getElem? (i := 4) rfl)) (hw _ (List.mem_of_getElem? (i := 5) rfl)) e0 (g := (mkF m 73 #[.val (.int q1), .val (.int q2), .val (.int q3), .val (.int q4), .val (.int aa), .val (.int kk), .val (.double (4709274203742797824 : UInt64)), .second, .val (.double (4593671619917905920 : UInt64)), .second, .unset, .unset, .unset, .unset, .unset, .unset, .unset, .unset, .unset, .unset] [])) rfl (hb hby at_73) (by decide) (by decide)
  obtain ⟨b49, g49⟩ : ∃ z, z = h0.size := ⟨_, rfl⟩
  rw [← g49] at A49 D49 st49
  have g_b49 : n0 ≤ b49 := Nat.le_trans Z0 (Nat.le_of_eq g49.symm)
  have f50 : Fld Z h49 b49 "com/example/ms2rank/ms2rank/matching/MassTolerance" "ppm" "D" (defaultValue .double) := D49 (Or.inr (hw _ (List.mem_of_getElem? (i := 27) rfl))) (ty := .double) (by decide)
  have f51 : Fld Z h49 b49 "com/example/ms2rank/ms2rank/matching/MassTolerance" "absolute" "D" (defaultValue .double) := D49 (Or.inr (hw _ (List.mem_of_getElem? (i := 29) rfl))) (ty := .double) (by decide)
  have Z49 : n0 ≤ h49.size := Nat.le_trans Z0 E49.1
  refine own_st st49 ?_
  show own_Go p e below K (T49.setTop (mkF m 76 #[.val (.int q1), .val (.int q2), .val (.int q3), .val (.int q4), .val (.int aa), .val (.int kk), .val (.double (4709274203742797824 : UInt64)), .second, .val (.double (4593671619917905920 : UInt64)), .second, .unset, .unset, .unset, .unset, .unset, .unset, .unset, .unset, .unset, .unset] [(.ref b49)]))
  try clear st49
  refine own_st (fun t k => XS.dup X49.here hx rfl (hb hby at_76) rfl rfl k) ?_
  show own_Go p e below K (T49.setTop (mkF m 77 #[.val (.int q1), .val (.int q2), .val (.int q3), .val (.int q4), .val (.int aa), .val (.int kk), .val (.double (4709274203742797824 : UInt64)), .second, .val (.double (4593671619917905920 : UInt64)), .second, .unset, .unset, .unset, .unset, .unset, .unset, .unset, .unset, .unset, .unset] [(.ref b49), (.ref b49)]))
  refine own_st (fun t k => XS.dload X49.here hx rfl (hb hby at_77) rfl k) ?_
  show own_Go p e below K (T49.setTop (mkF m 79 #[.val (.int q1), .val (.int q2), .val (.int q3), .val (.int q4), .val (.int aa), .val (.int kk), .val (.double (4709274203742797824 : UInt64)), .second, .val (.double (4593671619917905920 : UInt64)), .second, .unset, .unset, .unset, .unset, .unset, .unset, .unset, .unset, .unset, .unset] [(.double (4709274203742797824 : UInt64)), (.ref b49), (.ref b49)]))
  refine own_st (fun t k => XS.iload X49.here hx rfl (hb hby at_79) rfl k) ?_
  show own_Go p e below K (T49.setTop (mkF m 81 #[.val (.int q1), .val (.int q2), .val (.int q3), .val (.int q4), .val (.int aa), .val (.int kk), .val (.double (4709274203742797824 : UInt64)), .second, .val (.double (4593671619917905920 : UInt64)), .second, .unset, .unset, .unset, .unset, .unset, .unset, .unset, .unset, .unset, .unset] [(.int aa), (.double (4709274203742797824 : UInt64)), (.ref b49), (.ref b49)]))
  refine own_st (fun t k => XS.i2dS X49.here hx rfl (hb hby at_81) rfl (i2d_w aa) k) ?_
  show own_Go p e below K (T49.setTop (mkF m 82 #[.val (.int q1), .val (.int q2), .val (.int q3), .val (.int q4), .val (.int aa), .val (.int kk), .val (.double (4709274203742797824 : UInt64)), .second, .val (.double (4593671619917905920 : UInt64)), .second, .unset, .unset, .unset, .unset, .unset, .unset, .unset, .unset, .unset, .unset] [(.double (FP.l2d (aa).toInt64)), (.double (4709274203742797824 : UInt64)), (.ref b49), (.ref b49)]))
  obtain ⟨_, _, ⟨T52, L52, k52, n52⟩, -, X52, ⟨Lc52, hQ52, l52, y52, z52⟩, st52⟩ := X49.specialBack hx (y := (⟨"com/example/ms2rank/ms2rank/matching/MassTolerance", "<init>", "(DD)V"⟩ : MethodName)) rfl hown (mvT hZ (hw _ (List.mem_of_getElem? (i := 6) rfl))) (mvT hZ (hw _ (List.mem_of_getElem? (i := 7) rfl))) (mvT hZ (hw _ (List.mem_of_getElem? (i := 8) rfl))) (by decide) (backOf (W := 1) (rm1 l Z a0 hw [] b49 (4709274203742797824 : UInt64) (FP.l2d (aa).toInt64) (7000000) ((aa).toInt64) h49 n0 Z49 g_b49 A49 f50 f51 own_p7 rfl ⟨by decide, by decide⟩ haa) hZ (hw _ (List.mem_of_getElem? (i := 8) rfl)) (hw _ (List.mem_of_getElem? (i := 5) rfl)) (by decide) (by decide)) (g := (mkF m 82 #[.val (.int q1), .val (.int q2), .val (.int q3), .val (.int q4), .val (.int aa), .val (.int kk), .val (.double (4709274203742797824 : UInt64)), .second, .val (.double (4593671619917905920 : UInt64)), .second, .unset, .unset, .unset, .unset, .unset, .unset, .unset, .unset, .unset, .unset] [(.double (FP.l2d (aa).toInt64)), (.double (4709274203742797824 : UInt64)), (.ref b49), (.ref b49)])) rfl (by rw [hml]; rfl) (Steps.refl _) (a := b49) (argsL := [(.double (4709274203742797824 : UInt64)), (.double (FP.l2d (aa).toInt64))]) (rest := [(.ref b49)]) (lenOf pd_0_0 rfl) rfl (by show 2 * 0 + _ ≤ _; exact Nat.le_of_eq rfl) (hb hby at_82) (fun _ _ => ⟨rfl, e49, (by decide : 1 + 0 ≤ _), (by decide : 2 + 0 ≤ _)⟩)
  dsimp only [Pt.U, Pt.locs, Pt.cells, Pt.slots] at X52 l52 y52 z52 st52 hQ52
  obtain ⟨rfl, N52q, Kq52, p52_0, p52_1, p52_2⟩ := hQ52
  have N52 : Fr n0 L52 := by rw [l52]; exact Fr.app N0 N52q
  clear l52
  have y52' : k52 = 1 := y52
  have z52' : n52 = 2 := z52
  clear y52 z52
  subst y52' z52'
  have Z52 : n0 ≤ T52.heap.size := Nat.le_trans Z49 Kq52.1
  refine own_tr st52 ?_
  show own_Go p e below K (T52.setTop (mkF m 85 #[.val (.int q1), .val (.int q2), .val (.int q3), .val (.int q4), .val (.int aa), .val (.int kk), .val (.double (4709274203742797824 : UInt64)), .second, .val (.double (4593671619917905920 : UInt64)), .second, .unset, .unset, .unset, .unset, .unset, .unset, .unset, .unset, .unset, .unset] [(.ref b49)]))
  try clear X49 e49 st52 N52q
  refine own_st (fun t k => XS.astore X52.here hx rfl (hb hby at_85) rfl rfl (l' := #[.val (.int q1), .val (.int q2), .val (.int q3), .val (.int q4), .val (.int aa), .val (.int kk), .val (.double (4709274203742797824 : UInt64)), .second, .val (.double (4593671619917905920 : UInt64)), .second, .val (.ref b49), .unset, .unset, .unset, .unset, .unset, .unset, .unset, .unset, .unset]) rfl k) ?_
  show own_Go p e below K (T52.setTop (mkF m 87 #[.val (.int q1), .val (.int q2), .val (.int q3), .val (.int q4), .val (.int aa), .val (.int kk), .val (.double (4709274203742797824 : UInt64)), .second, .val (.double (4593671619917905920 : UInt64)), .second, .val (.ref b49), .unset, .unset, .unset, .unset, .unset, .unset, .unset, .unset, .unset] []))
  refine own_st (fun t k => XS.iloadN X52.here hx rfl (hb hby at_87) rfl k) ?_
  show own_Go p e below K (T52.setTop (mkF m 88 #[.val (.int q1), .val (.int q2), .val (.int q3), .val (.int q4), .val (.int aa), .val (.int kk), .val (.double (4709274203742797824 : UInt64)), .second, .val (.double (4593671619917905920 : UInt64)), .second, .val (.ref b49), .unset, .unset, .unset, .unset, .unset, .unset, .unset, .unset, .unset] [(.int q1)]))
  refine own_st (fun t k => XS.i2l X52.here hx rfl (hb hby at_88) rfl k) ?_
  show own_Go p e below K (T52.setTop (mkF m 89 #[.val (.int q1), .val (.int q2), .val (.int q3), .val (.int q4), .val (.int aa), .val (.int kk), .val (.double (4709274203742797824 : UInt64)), .second, .val (.double (4593671619917905920 : UInt64)), .second, .val (.ref b49), .unset, .unset, .unset, .unset, .unset, .unset, .unset, .unset, .unset] [(.long (q1.toInt64))]))
  refine own_st (fun t k => XS.iload X52.here hx rfl (hb hby at_89) rfl k) ?_
  show own_Go p e below K (T52.setTop (mkF m 91 #[.val (.int q1), .val (.int q2), .val (.int q3), .val (.int q4), .val (.int aa), .val (.int kk), .val (.double (4709274203742797824 : UInt64)), .second, .val (.double (4593671619917905920 : UInt64)), .second, .val (.ref b49), .unset, .unset, .unset, .unset, .unset, .unset, .unset, .unset, .unset] [(.int aa), (.long (q1.toInt64))]))
  refine own_st (fun t k => XS.i2l X52.here hx rfl (hb hby at_91) rfl k) ?_
  show own_Go p e below K (T52.setTop (mkF m 92 #[.val (.int q1), .val (.int q2), .val (.int q3), .val (.int q4), .val (.int aa), .val (.int kk), .val (.double (4709274203742797824 : UInt64)), .second, .val (.double (4593671619917905920 : UInt64)), .second, .val (.ref b49), .unset, .unset, .unset, .unset, .unset, .unset, .unset, .unset, .unset] [(.long (aa.toInt64)), (.long (q1.toInt64))]))
  refine own_st (fun t k => XS.lsub X52.here hx rfl (hb hby at_92) rfl k) ?_
  show own_Go p e below K (T52.setTop (mkF m 93 #[.val (.int q1), .val (.int q2), .val (.int q3), .val (.int q4), .val (.int aa), .val (.int kk), .val (.double (4709274203742797824 : UInt64)), .second, .val (.double (4593671619917905920 : UInt64)), .second, .val (.ref b49), .unset, .unset, .unset, .unset, .unset, .unset, .unset, .unset, .unset] [(.long ((q1.toInt64) - (aa.toInt64)))]))
  generalize hxx : ((q1.toInt64) - (aa.toInt64)) = xx
  show own_Go p e below K (T52.setTop (mkF m 93 #[.val (.int q1), .val (.int q2), .val (.int q3), .val (.int q4), .val (.int aa), .val (.int kk), .val (.double (4709274203742797824 : UInt64)), .second, .val (.double (4593671619917905920 : UInt64)), .second, .val (.ref b49), .unset, .unset, .unset, .unset, .unset, .unset, .unset, .unset, .unset] [(.long xx)]))
  have hxb := own_xb hxx haa
  refine own_st (fun t k => XS.l2dS X52.here hx rfl (hb hby at_93) rfl rfl k) ?_
  show own_Go p e below K (T52.setTop (mkF m 94 #[.val (.int q1), .val (.int q2), .val (.int q3), .val (.int q4), .val (.int aa), .val (.int kk), .val (.double (4709274203742797824 : UInt64)), .second, .val (.double (4593671619917905920 : UInt64)), .second, .val (.ref b49), .unset, .unset, .unset, .unset, .unset, .unset, .unset, .unset, .unset] [(.double (FP.l2d xx))]))
  refine own_st (fun t k => XS.dstore X52.here hx rfl (hb hby at_94) rfl (l' := #[.val (.int q1), .val (.int q2), .val (.int q3), .val (.int q4), .val (.int aa), .val (.int kk), .val (.double (4709274203742797824 : UInt64)), .second, .val (.double (4593671619917905920 : UInt64)), .second, .val (.ref b49), .val (.double (FP.l2d xx)), .second, .unset, .unset, .unset, .unset, .unset, .unset, .unset]) rfl k) ?_
  show own_Go p e below K (T52.setTop (mkF m 96 #[.val (.int q1), .val (.int q2), .val (.int q3), .val (.int q4), .val (.int aa), .val (.int kk), .val (.double (4709274203742797824 : UInt64)), .second, .val (.double (4593671619917905920 : UInt64)), .second, .val (.ref b49), .val (.double (FP.l2d xx)), .second, .unset, .unset, .unset, .unset, .unset, .unset, .unset] []))
  refine own_st (fun t k => XS.dload X52.here hx rfl (hb hby at_96) rfl k) ?_
  show own_Go p e below K (T52.setTop (mkF m 98 #[.val (.int q1), .val (.int q2), .val (.int q3), .val (.int q4), .val (.int aa), .val (.int kk), .val (.double (4709274203742797824 : UInt64)), .second, .val (.double (4593671619917905920 : UInt64)), .second, .val (.ref b49), .val (.double (FP.l2d xx)), .second, .unset, .unset, .unset, .unset, .unset, .unset, .unset] [(.double (FP.l2d xx))]))
  refine own_st (fun t k => XS.dload X52.here hx rfl (hb hby at_98) rfl k) ?_
  show own_Go p e below K (T52.setTop (mkF m 100 #[.val (.int q1), .val (.int q2), .val (.int q3), .val (.int q4), .val (.int aa), .val (.int kk), .val (.double (4709274203742797824 : UInt64)), .second, .val (.double (4593671619917905920 : UInt64)), .second, .val (.ref b49), .val (.double (FP.l2d xx)), .second, .unset, .unset, .unset, .unset, .unset, .unset, .unset] [(.double (4593671619917905920 : UInt64)), (.double (FP.l2d xx))]))
  refine own_st (fun t k => XS.dmulS X52.here hx rfl (hb hby at_100) rfl (own_sc own_h3) rfl k) ?_
  show own_Go p e below K (T52.setTop (mkF m 101 #[.val (.int q1), .val (.int q2), .val (.int q3), .val (.int q4), .val (.int aa), .val (.int kk), .val (.double (4709274203742797824 : UInt64)), .second, .val (.double (4593671619917905920 : UInt64)), .second, .val (.ref b49), .val (.double (FP.l2d xx)), .second, .unset, .unset, .unset, .unset, .unset, .unset, .unset] [(.double (FP.dmul (FP.l2d xx) (4593671619917905920 : UInt64)))]))
  refine own_st (fun t k => XS.dstore X52.here hx rfl (hb hby at_101) rfl (l' := #[.val (.int q1), .val (.int q2), .val (.int q3), .val (.int q4), .val (.int aa), .val (.int kk), .val (.double (4709274203742797824 : UInt64)), .second, .val (.double (4593671619917905920 : UInt64)), .second, .val (.ref b49), .val (.double (FP.l2d xx)), .second, .val (.double (FP.dmul (FP.l2d xx) (4593671619917905920 : UInt64))), .second, .unset, .unset, .unset, .unset, .unset]) rfl k) ?_
  show own_Go p e below K (T52.setTop (mkF m 103 #[.val (.int q1), .val (.int q2), .val (.int q3), .val (.int q4), .val (.int aa), .val (.int kk), .val (.double (4709274203742797824 : UInt64)), .second, .val (.double (4593671619917905920 : UInt64)), .second, .val (.ref b49), .val (.double (FP.l2d xx)), .second, .val (.double (FP.dmul (FP.l2d xx) (4593671619917905920 : UInt64))), .second, .unset, .unset, .unset, .unset, .unset] []))
  refine own_st (fun t k => XS.aload X52.here hx rfl (hb hby at_103) rfl rfl k) ?_
  show own_Go p e below K (T52.setTop (mkF m 105 #[.val (.int q1), .val (.int q2), .val (.int q3), .val (.int q4), .val (.int aa), .val (.int kk), .val (.double (4709274203742797824 : UInt64)), .second, .val (.double (4593671619917905920 : UInt64)), .second, .val (.ref b49), .val (.double (FP.l2d xx)), .second, .val (.double (FP.dmul (FP.l2d xx) (4593671619917905920 : UInt64))), .second, .unset, .unset, .unset, .unset, .unset] [(.ref b49)]))
  refine own_st (fun t k => XS.iloadN X52.here hx rfl (hb hby at_105) rfl k) ?_
  show own_Go p e below K (T52.setTop (mkF m 106 #[.val (.int q1), .val (.int q2), .val (.int q3), .val (.int q4), .val (.int aa), .val (.int kk), .val (.double (4709274203742797824 : UInt64)), .second, .val (.double (4593671619917905920 : UInt64)), .second, .val (.ref b49), .val (.double (FP.l2d xx)), .second, .val (.double (FP.dmul (FP.l2d xx) (4593671619917905920 : UInt64))), .second, .unset, .unset, .unset, .unset, .unset] [(.int q1), (.ref b49)]))
  refine own_st (fun t k => XS.i2dS X52.here hx rfl (hb hby at_106) rfl (i2d_w q1) k) ?_
  show own_Go p e below K (T52.setTop (mkF m 107 #[.val (.int q1), .val (.int q2), .val (.int q3), .val (.int q4), .val (.int aa), .val (.int kk), .val (.double (4709274203742797824 : UInt64)), .second, .val (.double (4593671619917905920 : UInt64)), .second, .val (.ref b49), .val (.double (FP.l2d xx)), .second, .val (.double (FP.dmul (FP.l2d xx) (4593671619917905920 : UInt64))), .second, .unset, .unset, .unset, .unset, .unset] [(.double (FP.l2d (q1).toInt64)), (.ref b49)]))
  obtain ⟨cq53, kq53, qv53a, qv53b, qv53c⟩ := isOf hZ rfl p52_0
  obtain ⟨_, _, ⟨T53, L53, k53, n53⟩, -, X53, ⟨Lc53, hQ53, l53, y53, z53⟩, st53⟩ := X52.virtualBack hx (y := (⟨"com/example/ms2rank/ms2rank/matching/MassTolerance", "lowestMatch", "(D)D"⟩ : MethodName)) (z := (⟨"com/example/ms2rank/ms2rank/matching/MassTolerance", "lowestMatch", "(D)D"⟩ : MethodName)) hown (mvT hZ (hw _ (List.mem_of_getElem? (i := 30) rfl))) (mvT hZ (hw _ (List.mem_of_getElem? (i := 31) rfl))) (notFace_of_selects (args := #[]) (mvT hZ (hw _ (List.mem_of_getElem? (i := 33) rfl)))) (mvT hZ (hw _ (List.mem_of_getElem? (i := 33) rfl))) (mvT hZ (hw _ (List.mem_of_getElem? (i := 32) rfl))) (by decide) (backOf (W := 0) (rm6 l Z a0 hw [] b49 (FP.l2d (q1).toInt64) ((FP.l2d (aa).toInt64)) ((4709274203742797824 : UInt64)) (xx) T52.heap n0 Z52 p52_2 p52_1 (own_ds hxx) (own_m2 own_p7 ⟨by decide, by decide⟩) (own_m3 own_p7 ⟨by decide, by decide⟩) (own_m4 xx own_p7 ⟨by decide, by decide⟩)) hZ (hw _ (List.mem_of_getElem? (i := 34) rfl)) (hw _ (List.mem_of_getElem? (i := 5) rfl)) (by decide) (by decide)) qv53a qv53c (g := (mkF m 107 #[.val (.int q1), .val (.int q2), .val (.int q3), .val (.int q4), .val (.int aa), .val (.int kk), .val (.double (4709274203742797824 : UInt64)), .second, .val (.double (4593671619917905920 : UInt64)), .second, .val (.ref b49), .val (.double (FP.l2d xx)), .second, .val (.double (FP.dmul (FP.l2d xx) (4593671619917905920 : UInt64))), .second, .unset, .unset, .unset, .unset, .unset] [(.double (FP.l2d (q1).toInt64)), (.ref b49)])) rfl (by rw [hml]; rfl) (Steps.refl _) (argsL := [(.double (FP.l2d (q1).toInt64))]) (rest := []) (lenOf pd_0_3 rfl) rfl (by show 2 * 0 + _ ≤ _; exact Nat.le_of_eq rfl) (hb hby at_107) (fun _ _ => ⟨rfl, rfl, (by decide : 1 + 0 ≤ _), (by decide : 2 + 0 ≤ _)⟩)
  dsimp only [Pt.U, Pt.locs, Pt.cells, Pt.slots] at X53 l53 y53 z53 st53 hQ53
  obtain ⟨r53, rfl, hr53, N53q, e53⟩ := hQ53
  have N53 : Fr n0 L53 := by rw [l53]; exact Fr.app N52 N53q
  clear l53
  have y53' : k53 = 1 := y53
  have z53' : n53 = 2 := z53
  clear y53 z53
  subst y53' z53'
  refine own_tr st53 ?_
  show own_Go p e below K (T53.setTop (mkF m 110 #[.val (.int q1), .val (.int q2), .val (.int q3), .val (.int q4), .val (.int aa), .val (.int kk), .val (.double (4709274203742797824 : UInt64)), .second, .val (.double (4593671619917905920 : UInt64)), .second, .val (.ref b49), .val (.double (FP.l2d xx)), .second, .val (.double (FP.dmul (FP.l2d xx) (4593671619917905920 : UInt64))), .second, .unset, .unset, .unset, .unset, .unset] [(.double r53)]))
  try clear X52 st53 N52 N53q
  refine own_st (fun t k => XS.dload X53.here hx rfl (hb hby at_110) rfl k) ?_
  show own_Go p e below K (T53.setTop (mkF m 112 #[.val (.int q1), .val (.int q2), .val (.int q3), .val (.int q4), .val (.int aa), .val (.int kk), .val (.double (4709274203742797824 : UInt64)), .second, .val (.double (4593671619917905920 : UInt64)), .second, .val (.ref b49), .val (.double (FP.l2d xx)), .second, .val (.double (FP.dmul (FP.l2d xx) (4593671619917905920 : UInt64))), .second, .unset, .unset, .unset, .unset, .unset] [(.double (FP.dmul (FP.l2d xx) (4593671619917905920 : UInt64))), (.double r53)]))
  refine own_st (fun t k => XS.dcmpS X53.here hx rfl (hb hby at_112) rfl (dcmpV_eq (own_ex3 hr53) (own_ex3 hr53 ▸ own_sc own_h3) .l) k) ?_
  show own_Go p e below K (T53.setTop (mkF m 113 #[.val (.int q1), .val (.int q2), .val (.int q3), .val (.int q4), .val (.int aa), .val (.int kk), .val (.double (4709274203742797824 : UInt64)), .second, .val (.double (4593671619917905920 : UInt64)), .second, .val (.ref b49), .val (.double (FP.l2d xx)), .second, .val (.double (FP.dmul (FP.l2d xx) (4593671619917905920 : UInt64))), .second, .unset, .unset, .unset, .unset, .unset] [(.int (0 : Int32))]))
  refine own_st (fun t k => XS.ifNo X53.here hx rfl (hb hby at_113) rfl ((if0 _ _).trans (teq (by decide : (0 : Int32) = (0 : Int32))).2) k) ?_
  show own_Go p e below K (T53.setTop (mkF m 116 #[.val (.int q1), .val (.int q2), .val (.int q3), .val (.int q4), .val (.int aa), .val (.int kk), .val (.double (4709274203742797824 : UInt64)), .second, .val (.double (4593671619917905920 : UInt64)), .second, .val (.ref b49), .val (.double (FP.l2d xx)), .second, .val (.double (FP.dmul (FP.l2d xx) (4593671619917905920 : UInt64))), .second, .unset, .unset, .unset, .unset, .unset] []))
  refine own_st (fun t k => XS.iconst X53.here hx rfl (hb hby at_116) k) ?_
  show own_Go p e below K (T53.setTop (mkF m 117 #[.val (.int q1), .val (.int q2), .val (.int q3), .val (.int q4), .val (.int aa), .val (.int kk), .val (.double (4709274203742797824 : UInt64)), .second, .val (.double (4593671619917905920 : UInt64)), .second, .val (.ref b49), .val (.double (FP.l2d xx)), .second, .val (.double (FP.dmul (FP.l2d xx) (4593671619917905920 : UInt64))), .second, .unset, .unset, .unset, .unset, .unset] [(.int (1 : Int32))]))
  refine own_st (fun t k => XS.goto X53.here hx rfl (pc0 := 117) (pc' := 121) rfl (hb hby at_117) (by decide) (by decide) k) ?_
  show own_Go p e below K (T53.setTop (mkF m 121 #[.val (.int q1), .val (.int q2), .val (.int q3), .val (.int q4), .val (.int aa), .val (.int kk), .val (.double (4709274203742797824 : UInt64)), .second, .val (.double (4593671619917905920 : UInt64)), .second, .val (.ref b49), .val (.double (FP.l2d xx)), .second, .val (.double (FP.dmul (FP.l2d xx) (4593671619917905920 : UInt64))), .second, .unset, .unset, .unset, .unset, .unset] [(.int (1 : Int32))]))
  refine own_st (fun t k => XS.istore X53.here hx rfl (hb hby at_121) rfl (l' := #[.val (.int q1), .val (.int q2), .val (.int q3), .val (.int q4), .val (.int aa), .val (.int kk), .val (.double (4709274203742797824 : UInt64)), .second, .val (.double (4593671619917905920 : UInt64)), .second, .val (.ref b49), .val (.double (FP.l2d xx)), .second, .val (.double (FP.dmul (FP.l2d xx) (4593671619917905920 : UInt64))), .second, .val (.int (1 : Int32)), .unset, .unset, .unset, .unset]) rfl k) ?_
  show own_Go p e below K (T53.setTop (mkF m 123 #[.val (.int q1), .val (.int q2), .val (.int q3), .val (.int q4), .val (.int aa), .val (.int kk), .val (.double (4709274203742797824 : UInt64)), .second, .val (.double (4593671619917905920 : UInt64)), .second, .val (.ref b49), .val (.double (FP.l2d xx)), .second, .val (.double (FP.dmul (FP.l2d xx) (4593671619917905920 : UInt64))), .second, .val (.int (1 : Int32)), .unset, .unset, .unset, .unset] []))
  obtain ⟨T54, h54, X54, e54, E54, A54, D54, -, st54⟩ := newO X53 hx hZ hown (hw _ (List.mem_of_getElem? (i := 3) rfl)) (hw _ (List.mem_of_getElem? (i := 4) rfl)) (hw _ (List.mem_of_getElem? (i := 5) rfl)) e53 (g := (mkF m 123 #[.val (.int q1), .val (.int q2), .val (.int q3), .val (.int q4), .val (.int aa), .val (.int kk), .val (.double (4709274203742797824 : UInt64)), .second, .val (.double (4593671619917905920 : UInt64)), .second, .val (.ref b49), .val (.double (FP.l2d xx)), .second, .val (.double (FP.dmul (FP.l2d xx) (4593671619917905920 : UInt64))), .second, .val (.int (1 : Int32)), .unset, .unset, .unset, .unset] [])) rfl (hb hby at_123) (by decide) (by decide)
  obtain ⟨b54, g54⟩ : ∃ z, z = T52.heap.size := ⟨_, rfl⟩
  rw [← g54] at A54 D54 st54
  have ne_b49_b54 : b49 ≠ b54 := Nat.ne_of_lt (Nat.lt_of_lt_of_le p52_0.lt (Nat.le_of_eq g54.symm))
  have g_b54 : n0 ≤ b54 := Nat.le_trans Z52 (Nat.le_of_eq g54.symm)
  have f55 : Exa Z h54 b49 "com/example/ms2rank/ms2rank/matching/MassTolerance" := p52_0.ext E54
  have f56 : Fld Z h54 b49 "com/example/ms2rank/ms2rank/matching/MassTolerance" "ppm" "D" (.double (4709274203742797824 : UInt64)) := p52_1.ext E54
  have f57 : Fld Z h54 b49 "com/example/ms2rank/ms2rank/matching/MassTolerance" "absolute" "D" (.double (FP.l2d (aa).toInt64)) := p52_2.ext E54
  have f58 : Fld Z h54 b54 "com/example/ms2rank/ms2rank/matching/MassTolerance" "ppm" "D" (defaultValue .double) := D54 (Or.inr (hw _ (List.mem_of_getElem? (i := 27) rfl))) (ty := .double) (by decide)
  have f59 : Fld Z h54 b54 "com/example/ms2rank/ms2rank/matching/MassTolerance" "absolute" "D" (defaultValue .double) := D54 (Or.inr (hw _ (List.mem_of_getElem? (i := 29) rfl))) (ty := .double) (by decide)
  have Z54 : n0 ≤ h54.size := Nat.le_trans Z52 E54.1
  refine own_st st54 ?_
  show own_Go p e below K (T54.setTop (mkF m 126 #[.val (.int q1), .val (.int q2), .val (.int q3), .val (.int q4), .val (.int aa), .val (.int kk), .val (.double (4709274203742797824 : UInt64)), .second, .val (.double (4593671619917905920 : UInt64)), .second, .val (.ref b49), .val (.double (FP.l2d xx)), .second, .val (.double (FP.dmul (FP.l2d xx) (4593671619917905920 : UInt64))), .second, .val (.int (1 : Int32)), .unset, .unset, .unset, .unset] [(.ref b54)]))
  try clear X53 e53 st54 p52_0 p52_1 p52_2
  refine own_st (fun t k => XS.dup X54.here hx rfl (hb hby at_126) rfl rfl k) ?_
  show own_Go p e below K (T54.setTop (mkF m 127 #[.val (.int q1), .val (.int q2), .val (.int q3), .val (.int q4), .val (.int aa), .val (.int kk), .val (.double (4709274203742797824 : UInt64)), .second, .val (.double (4593671619917905920 : UInt64)), .second, .val (.ref b49), .val (.double (FP.l2d xx)), .second, .val (.double (FP.dmul (FP.l2d xx) (4593671619917905920 : UInt64))), .second, .val (.int (1 : Int32)), .unset, .unset, .unset, .unset] [(.ref b54), (.ref b54)]))
  refine own_st (fun t k => XS.iloadN X54.here hx rfl (hb hby at_127) rfl k) ?_
  show own_Go p e below K (T54.setTop (mkF m 128 #[.val (.int q1), .val (.int q2), .val (.int q3), .val (.int q4), .val (.int aa), .val (.int kk), .val (.double (4709274203742797824 : UInt64)), .second, .val (.double (4593671619917905920 : UInt64)), .second, .val (.ref b49), .val (.double (FP.l2d xx)), .second, .val (.double (FP.dmul (FP.l2d xx) (4593671619917905920 : UInt64))), .second, .val (.int (1 : Int32)), .unset, .unset, .unset, .unset] [(.int q4), (.ref b54), (.ref b54)]))
  refine own_st (X54.ldcInt hx hown (mvT hZ (hw _ (List.mem_of_getElem? (i := 36) rfl))) (g := (mkF m 128 #[.val (.int q1), .val (.int q2), .val (.int q3), .val (.int q4), .val (.int aa), .val (.int kk), .val (.double (4709274203742797824 : UInt64)), .second, .val (.double (4593671619917905920 : UInt64)), .second, .val (.ref b49), .val (.double (FP.l2d xx)), .second, .val (.double (FP.dmul (FP.l2d xx) (4593671619917905920 : UInt64))), .second, .val (.int (1 : Int32)), .unset, .unset, .unset, .unset] [(.int q4), (.ref b54), (.ref b54)])) rfl (hb hby at_128)) ?_
  show own_Go p e below K (T54.setTop (mkF m 130 #[.val (.int q1), .val (.int q2), .val (.int q3), .val (.int q4), .val (.int aa), .val (.int kk), .val (.double (4709274203742797824 : UInt64)), .second, .val (.double (4593671619917905920 : UInt64)), .second, .val (.ref b49), .val (.double (FP.l2d xx)), .second, .val (.double (FP.dmul (FP.l2d xx) (4593671619917905920 : UInt64))), .second, .val (.int (1 : Int32)), .unset, .unset, .unset, .unset] [(.int (1048575 : Int32)), (.int q4), (.ref b54), (.ref b54)]))
  refine own_st (fun t k => XS.iand X54.here hx rfl (hb hby at_130) rfl k) ?_
  show own_Go p e below K (T54.setTop (mkF m 131 #[.val (.int q1), .val (.int q2), .val (.int q3), .val (.int q4), .val (.int aa), .val (.int kk), .val (.double (4709274203742797824 : UInt64)), .second, .val (.double (4593671619917905920 : UInt64)), .second, .val (.ref b49), .val (.double (FP.l2d xx)), .second, .val (.double (FP.dmul (FP.l2d xx) (4593671619917905920 : UInt64))), .second, .val (.int (1 : Int32)), .unset, .unset, .unset, .unset] [(.int (q4 &&& (1048575 : Int32))), (.ref b54), (.ref b54)]))
  generalize hpp : (q4 &&& (1048575 : Int32)) = pp
  show own_Go p e below K (T54.setTop (mkF m 131 #[.val (.int q1), .val (.int q2), .val (.int q3), .val (.int q4), .val (.int aa), .val (.int kk), .val (.double (4709274203742797824 : UInt64)), .second, .val (.double (4593671619917905920 : UInt64)), .second, .val (.ref b49), .val (.double (FP.l2d xx)), .second, .val (.double (FP.dmul (FP.l2d xx) (4593671619917905920 : UInt64))), .second, .val (.int (1 : Int32)), .unset, .unset, .unset, .unset] [(.int pp), (.ref b54), (.ref b54)]))
  have hpb := own_pp hpp
  refine own_st (fun t k => XS.i2dS X54.here hx rfl (hb hby at_131) rfl (i2d_w pp) k) ?_
  show own_Go p e below K (T54.setTop (mkF m 132 #[.val (.int q1), .val (.int q2), .val (.int q3), .val (.int q4), .val (.int aa), .val (.int kk), .val (.double (4709274203742797824 : UInt64)), .second, .val (.double (4593671619917905920 : UInt64)), .second, .val (.ref b49), .val (.double (FP.l2d xx)), .second, .val (.double (FP.dmul (FP.l2d xx) (4593671619917905920 : UInt64))), .second, .val (.int (1 : Int32)), .unset, .unset, .unset, .unset] [(.double (FP.l2d (pp).toInt64)), (.ref b54), (.ref b54)]))
  refine own_st (fun t k => XS.iload X54.here hx rfl (hb hby at_132) rfl k) ?_
  show own_Go p e below K (T54.setTop (mkF m 134 #[.val (.int q1), .val (.int q2), .val (.int q3), .val (.int q4), .val (.int aa), .val (.int kk), .val (.double (4709274203742797824 : UInt64)), .second, .val (.double (4593671619917905920 : UInt64)), .second, .val (.ref b49), .val (.double (FP.l2d xx)), .second, .val (.double (FP.dmul (FP.l2d xx) (4593671619917905920 : UInt64))), .second, .val (.int (1 : Int32)), .unset, .unset, .unset, .unset] [(.int aa), (.double (FP.l2d (pp).toInt64)), (.ref b54), (.ref b54)]))
  refine own_st (fun t k => XS.i2dS X54.here hx rfl (hb hby at_134) rfl (i2d_w aa) k) ?_
  show own_Go p e below K (T54.setTop (mkF m 135 #[.val (.int q1), .val (.int q2), .val (.int q3), .val (.int q4), .val (.int aa), .val (.int kk), .val (.double (4709274203742797824 : UInt64)), .second, .val (.double (4593671619917905920 : UInt64)), .second, .val (.ref b49), .val (.double (FP.l2d xx)), .second, .val (.double (FP.dmul (FP.l2d xx) (4593671619917905920 : UInt64))), .second, .val (.int (1 : Int32)), .unset, .unset, .unset, .unset] [(.double (FP.l2d (aa).toInt64)), (.double (FP.l2d (pp).toInt64)), (.ref b54), (.ref b54)]))
  obtain ⟨_, _, ⟨T60, L60, k60, n60⟩, -, X60, ⟨Lc60, hQ60, l60, y60, z60⟩, st60⟩ := X54.specialBack hx (y := (⟨"com/example/ms2rank/ms2rank/matching/MassTolerance", "<init>", "(DD)V"⟩ : MethodName)) rfl hown (mvT hZ (hw _ (List.mem_of_getElem? (i := 6) rfl))) (mvT hZ (hw _ (List.mem_of_getElem? (i := 7) rfl))) (mvT hZ (hw _ (List.mem_of_getElem? (i := 8) rfl))) (by decide) (backOf (W := 1) (rm1 l Z a0 hw [] b54 (FP.l2d (pp).toInt64) (FP.l2d (aa).toInt64) ((pp).toInt64) ((aa).toInt64) h54 n0 Z54 g_b54 A54 f58 f59 rfl rfl hpb haa) hZ (hw _ (List.mem_of_getElem? (i := 8) rfl)) (hw _ (List.mem_of_getElem? (i := 5) rfl)) (by decide) (by decide)) (g := (mkF m 135 #[.val (.int q1), .val (.int q2), .val (.int q3), .val (.int q4), .val (.int aa), .val (.int kk), .val (.double (4709274203742797824 : UInt64)), .second, .val (.double (4593671619917905920 : UInt64)), .second, .val (.ref b49), .val (.double (FP.l2d xx)), .second, .val (.double (FP.dmul (FP.l2d xx) (4593671619917905920 : UInt64))), .second, .val (.int (1 : Int32)), .unset, .unset, .unset, .unset] [(.double (FP.l2d (aa).toInt64)), (.double (FP.l2d (pp).toInt64)), (.ref b54), (.ref b54)])) rfl (by rw [hml]; rfl) (Steps.refl _) (a := b54) (argsL := [(.double (FP.l2d (pp).toInt64)), (.double (FP.l2d (aa).toInt64))]) (rest := [(.ref b54)]) (lenOf pd_0_0 rfl) rfl (by show 2 * 0 + _ ≤ _; exact Nat.le_of_eq rfl) (hb hby at_135) (fun _ _ => ⟨rfl, e54, (by decide : 2 + 0 ≤ _), (by decide : 4 + 0 ≤ _)⟩)
  dsimp only [Pt.U, Pt.locs, Pt.cells, Pt.slots] at X60 l60 y60 z60 st60 hQ60
  obtain ⟨rfl, N60q, Kq60, p60_0, p60_1, p60_2⟩ := hQ60
  have N60 : Fr n0 L60 := by rw [l60]; exact Fr.app N53 N60q
  clear l60
  have y60' : k60 = 2 := y60
  have z60' : n60 = 4 := z60
  clear y60 z60
  subst y60' z60'
  have f61 : Exa Z T60.heap b49 "com/example/ms2rank/ms2rank/matching/MassTolerance" := f55.keep Kq60
  have f62 : Fld Z T60.heap b49 "com/example/ms2rank/ms2rank/matching/MassTolerance" "ppm" "D" (.double (4709274203742797824 : UInt64)) := f56.keep Kq60 (ninS ne_b49_b54 nin0)
  have f63 : Fld Z T60.heap b49 "com/example/ms2rank/ms2rank/matching/MassTolerance" "absolute" "D" (.double (FP.l2d (aa).toInt64)) := f57.keep Kq60 (ninS ne_b49_b54 nin0)
  have Z60 : n0 ≤ T60.heap.size := Nat.le_trans Z54 Kq60.1
  refine own_tr st60 ?_
  show own_Go p e below K (T60.setTop (mkF m 138 #[.val (.int q1), .val (.int q2), .val (.int q3), .val (.int q4), .val (.int aa), .val (.int kk), .val (.double (4709274203742797824 : UInt64)), .second, .val (.double (4593671619917905920 : UInt64)), .second, .val (.ref b49), .val (.double (FP.l2d xx)), .second, .val (.double (FP.dmul (FP.l2d xx) (4593671619917905920 : UInt64))), .second, .val (.int (1 : Int32)), .unset, .unset, .unset, .unset] [(.ref b54)]))
  try clear X54 e54 st60 N53 N60q f55 f56 f57
  refine own_st (fun t k => XS.astore X60.here hx rfl (hb hby at_138) rfl rfl (l' := #[.val (.int q1), .val (.int q2), .val (.int q3), .val (.int q4), .val (.int aa), .val (.int kk), .val (.double (4709274203742797824 : UInt64)), .second, .val (.double (4593671619917905920 : UInt64)), .second, .val (.ref b49), .val (.double (FP.l2d xx)), .second, .val (.double (FP.dmul (FP.l2d xx) (4593671619917905920 : UInt64))), .second, .val (.int (1 : Int32)), .val (.ref b54), .unset, .unset, .unset]) rfl k) ?_
  show own_Go p e below K (T60.setTop (mkF m 140 #[.val (.int q1), .val (.int q2), .val (.int q3), .val (.int q4), .val (.int aa), .val (.int kk), .val (.double (4709274203742797824 : UInt64)), .second, .val (.double (4593671619917905920 : UInt64)), .second, .val (.ref b49), .val (.double (FP.l2d xx)), .second, .val (.double (FP.dmul (FP.l2d xx) (4593671619917905920 : UInt64))), .second, .val (.int (1 : Int32)), .val (.ref b54), .unset, .unset, .unset] []))
  refine own_st (fun t k => XS.aload X60.here hx rfl (hb hby at_140) rfl rfl k) ?_
  show own_Go p e below K (T60.setTop (mkF m 142 #[.val (.int q1), .val (.int q2), .val (.int q3), .val (.int q4), .val (.int aa), .val (.int kk), .val (.double (4709274203742797824 : UInt64)), .second, .val (.double (4593671619917905920 : UInt64)), .second, .val (.ref b49), .val (.double (FP.l2d xx)), .second, .val (.double (FP.dmul (FP.l2d xx) (4593671619917905920 : UInt64))), .second, .val (.int (1 : Int32)), .val (.ref b54), .unset, .unset, .unset] [(.ref b54)]))
  refine own_st (fun t k => XS.iloadN X60.here hx rfl (hb hby at_142) rfl k) ?_
  show own_Go p e below K (T60.setTop (mkF m 143 #[.val (.int q1), .val (.int q2), .val (.int q3), .val (.int q4), .val (.int aa), .val (.int kk), .val (.double (4709274203742797824 : UInt64)), .second, .val (.double (4593671619917905920 : UInt64)), .second, .val (.ref b49), .val (.double (FP.l2d xx)), .second, .val (.double (FP.dmul (FP.l2d xx) (4593671619917905920 : UInt64))), .second, .val (.int (1 : Int32)), .val (.ref b54), .unset, .unset, .unset] [(.int q1), (.ref b54)]))
  refine own_st (fun t k => XS.i2dS X60.here hx rfl (hb hby at_143) rfl (i2d_w q1) k) ?_
  show own_Go p e below K (T60.setTop (mkF m 144 #[.val (.int q1), .val (.int q2), .val (.int q3), .val (.int q4), .val (.int aa), .val (.int kk), .val (.double (4709274203742797824 : UInt64)), .second, .val (.double (4593671619917905920 : UInt64)), .second, .val (.ref b49), .val (.double (FP.l2d xx)), .second, .val (.double (FP.dmul (FP.l2d xx) (4593671619917905920 : UInt64))), .second, .val (.int (1 : Int32)), .val (.ref b54), .unset, .unset, .unset] [(.double (FP.l2d (q1).toInt64)), (.ref b54)]))
  obtain ⟨cq64, kq64, qv64a, qv64b, qv64c⟩ := isOf hZ rfl p60_0
  obtain ⟨_, _, ⟨T64, L64, k64, n64⟩, -, X64, ⟨Lc64, hQ64, l64, y64, z64⟩, st64⟩ := X60.virtualBack hx (y := (⟨"com/example/ms2rank/ms2rank/matching/MassTolerance", "lowestMatch", "(D)D"⟩ : MethodName)) (z := (⟨"com/example/ms2rank/ms2rank/matching/MassTolerance", "lowestMatch", "(D)D"⟩ : MethodName)) hown (mvT hZ (hw _ (List.mem_of_getElem? (i := 30) rfl))) (mvT hZ (hw _ (List.mem_of_getElem? (i := 31) rfl))) (notFace_of_selects (args := #[]) (mvT hZ (hw _ (List.mem_of_getElem? (i := 33) rfl)))) (mvT hZ (hw _ (List.mem_of_getElem? (i := 33) rfl))) (mvT hZ (hw _ (List.mem_of_getElem? (i := 32) rfl))) (by decide) (backOf (W := 0) (rm6 l Z a0 hw [] b54 (FP.l2d (q1).toInt64) ((FP.l2d (aa).toInt64)) ((FP.l2d (pp).toInt64)) (xx) T60.heap n0 Z60 p60_2 p60_1 (own_ds hxx) (own_m2 rfl hpb) (own_m3 rfl hpb) (own_m4 xx rfl hpb)) hZ (hw _ (List.mem_of_getElem? (i := 34) rfl)) (hw _ (List.mem_of_getElem? (i := 5) rfl)) (by decide) (by decide)) qv64a qv64c (g := (mkF m 144 #[.val (.int q1), .val (.int q2), .val (.int q3), .val (.int q4), .val (.int aa), .val (.int kk), .val (.double (4709274203742797824 : UInt64)), .second, .val (.double (4593671619917905920 : UInt64)), .second, .val (.ref b49), .val (.double (FP.l2d xx)), .second, .val (.double (FP.dmul (FP.l2d xx) (4593671619917905920 : UInt64))), .second, .val (.int (1 : Int32)), .val (.ref b54), .unset, .unset, .unset] [(.double (FP.l2d (q1).toInt64)), (.ref b54)])) rfl (by rw [hml]; rfl) (Steps.refl _) (argsL := [(.double (FP.l2d (q1).toInt64))]) (rest := []) (lenOf pd_0_3 rfl) rfl (by show 2 * 0 + _ ≤ _; exact Nat.le_of_eq rfl) (hb hby at_144) (fun _ _ => ⟨rfl, rfl, (by decide : 2 + 0 ≤ _), (by decide : 4 + 0 ≤ _)⟩)
  dsimp only [Pt.U, Pt.locs, Pt.cells, Pt.slots] at X64 l64 y64 z64 st64 hQ64
  obtain ⟨r64, rfl, hr64, N64q, e64⟩ := hQ64
  have N64 : Fr n0 L64 := by rw [l64]; exact Fr.app N60 N64q
  clear l64
  have y64' : k64 = 2 := y64
  have z64' : n64 = 4 := z64
  clear y64 z64
  subst y64' z64'
  refine own_tr st64 ?_
  show own_Go p e below K (T64.setTop (mkF m 147 #[.val (.int q1), .val (.int q2), .val (.int q3), .val (.int q4), .val (.int aa), .val (.int kk), .val (.double (4709274203742797824 : UInt64)), .second, .val (.double (4593671619917905920 : UInt64)), .second, .val (.ref b49), .val (.double (FP.l2d xx)), .second, .val (.double (FP.dmul (FP.l2d xx) (4593671619917905920 : UInt64))), .second, .val (.int (1 : Int32)), .val (.ref b54), .unset, .unset, .unset] [(.double r64)]))
  try clear X60 st64 N60 N64q
  refine own_st (fun t k => XS.dstore X64.here hx rfl (hb hby at_147) rfl (l' := #[.val (.int q1), .val (.int q2), .val (.int q3), .val (.int q4), .val (.int aa), .val (.int kk), .val (.double (4709274203742797824 : UInt64)), .second, .val (.double (4593671619917905920 : UInt64)), .second, .val (.ref b49), .val (.double (FP.l2d xx)), .second, .val (.double (FP.dmul (FP.l2d xx) (4593671619917905920 : UInt64))), .second, .val (.int (1 : Int32)), .val (.ref b54), .val (.double r64), .second, .unset]) rfl k) ?_
  show own_Go p e below K (T64.setTop (mkF m 149 #[.val (.int q1), .val (.int q2), .val (.int q3), .val (.int q4), .val (.int aa), .val (.int kk), .val (.double (4709274203742797824 : UInt64)), .second, .val (.double (4593671619917905920 : UInt64)), .second, .val (.ref b49), .val (.double (FP.l2d xx)), .second, .val (.double (FP.dmul (FP.l2d xx) (4593671619917905920 : UInt64))), .second, .val (.int (1 : Int32)), .val (.ref b54), .val (.double r64), .second, .unset] []))
  refine own_st (fun t k => XS.dload X64.here hx rfl (hb hby at_149) rfl k) ?_
  show own_Go p e below K (T64.setTop (mkF m 151 #[.val (.int q1), .val (.int q2), .val (.int q3), .val (.int q4), .val (.int aa), .val (.int kk), .val (.double (4709274203742797824 : UInt64)), .second, .val (.double (4593671619917905920 : UInt64)), .second, .val (.ref b49), .val (.double (FP.l2d xx)), .second, .val (.double (FP.dmul (FP.l2d xx) (4593671619917905920 : UInt64))), .second, .val (.int (1 : Int32)), .val (.ref b54), .val (.double r64), .second, .unset] [(.double (FP.l2d xx))]))
  refine own_st (fun t k => XS.dconst0 X64.here hx rfl (hb hby at_151) rfl k) ?_
  show own_Go p e below K (T64.setTop (mkF m 152 #[.val (.int q1), .val (.int q2), .val (.int q3), .val (.int q4), .val (.int aa), .val (.int kk), .val (.double (4709274203742797824 : UInt64)), .second, .val (.double (4593671619917905920 : UInt64)), .second, .val (.ref b49), .val (.double (FP.l2d xx)), .second, .val (.double (FP.dmul (FP.l2d xx) (4593671619917905920 : UInt64))), .second, .val (.int (1 : Int32)), .val (.ref b54), .val (.double r64), .second, .unset] [(.double FP.dconst0), (.double (FP.l2d xx))]))
  refine own_st (fun t k => XS.dcmpS X64.here hx rfl (hb hby at_152) rfl (own_lc rfl hxb .l) k) ?_
  show own_Go p e below K (T64.setTop (mkF m 153 #[.val (.int q1), .val (.int q2), .val (.int q3), .val (.int q4), .val (.int aa), .val (.int kk), .val (.double (4709274203742797824 : UInt64)), .second, .val (.double (4593671619917905920 : UInt64)), .second, .val (.ref b49), .val (.double (FP.l2d xx)), .second, .val (.double (FP.dmul (FP.l2d xx) (4593671619917905920 : UInt64))), .second, .val (.int (1 : Int32)), .val (.ref b54), .val (.double r64), .second, .unset] [(.int (lcmpW xx (0 : Int64)))]))
  by_cases hc153 : xx < (0 : Int64)
  · refine own_st (fun t k => XS.ifYes X64.here hx rfl (pc0 := 153) (pc' := 181) rfl (hb hby at_153) rfl ((if0 _ _).trans (tlt ((lw_lt xx (0 : Int64)).mpr hc153)).1) (by decide) (by decide) k) ?_
    show own_Go p e below K (T64.setTop (mkF m 181 #[.val (.int q1), .val (.int q2), .val (.int q3), .val (.int q4), .val (.int aa), .val (.int kk), .val (.double (4709274203742797824 : UInt64)), .second, .val (.double (4593671619917905920 : UInt64)), .second, .val (.ref b49), .val (.double (FP.l2d xx)), .second, .val (.double (FP.dmul (FP.l2d xx) (4593671619917905920 : UInt64))), .second, .val (.int (1 : Int32)), .val (.ref b54), .val (.double r64), .second, .unset] []))
    refine own_st (fun t k => XS.dload X64.here hx rfl (hb hby at_181) rfl k) ?_
    show own_Go p e below K (T64.setTop (mkF m 183 #[.val (.int q1), .val (.int q2), .val (.int q3), .val (.int q4), .val (.int aa), .val (.int kk), .val (.double (4709274203742797824 : UInt64)), .second, .val (.double (4593671619917905920 : UInt64)), .second, .val (.ref b49), .val (.double (FP.l2d xx)), .second, .val (.double (FP.dmul (FP.l2d xx) (4593671619917905920 : UInt64))), .second, .val (.int (1 : Int32)), .val (.ref b54), .val (.double r64), .second, .unset] [(.double (FP.l2d xx))]))
    refine own_st (fun t k => XS.dload X64.here hx rfl (hb hby at_183) rfl k) ?_
    show own_Go p e below K (T64.setTop (mkF m 185 #[.val (.int q1), .val (.int q2), .val (.int q3), .val (.int q4), .val (.int aa), .val (.int kk), .val (.double (4709274203742797824 : UInt64)), .second, .val (.double (4593671619917905920 : UInt64)), .second, .val (.ref b49), .val (.double (FP.l2d xx)), .second, .val (.double (FP.dmul (FP.l2d xx) (4593671619917905920 : UInt64))), .second, .val (.int (1 : Int32)), .val (.ref b54), .val (.double r64), .second, .unset] [(.double r64), (.double (FP.l2d xx))]))
    refine own_st (fun t k => XS.dcmpS X64.here hx rfl (hb hby at_185) rfl rfl k) ?_
    show own_Go p e below K (T64.setTop (mkF m 186 #[.val (.int q1), .val (.int q2), .val (.int q3), .val (.int q4), .val (.int aa), .val (.int kk), .val (.double (4709274203742797824 : UInt64)), .second, .val (.double (4593671619917905920 : UInt64)), .second, .val (.ref b49), .val (.double (FP.l2d xx)), .second, .val (.double (FP.dmul (FP.l2d xx) (4593671619917905920 : UInt64))), .second, .val (.int (1 : Int32)), .val (.ref b54), .val (.double r64), .second, .unset] [(.int (cmpValue (FP.dcmp (FP.l2d xx) r64) .g))]))
    refine own_st (fun t k => XS.ifNo X64.here hx rfl (hb hby at_186) rfl ((if0 _ _).trans (flt (own_ng (hr64 ▸ ((own_bnd (x := xx) (own_g rfl hpb)).2 (own_x1 hc153)).1) : ¬ ((0 : Int32) < (cmpValue (FP.dcmp (FP.l2d xx) r64) .g)))).2.2.1) k) ?_
    show own_Go p e below K (T64.setTop (mkF m 189 #[.val (.int q1), .val (.int q2), .val (.int q3), .val (.int q4), .val (.int aa), .val (.int kk), .val (.double (4709274203742797824 : UInt64)), .second, .val (.double (4593671619917905920 : UInt64)), .second, .val (.ref b49), .val (.double (FP.l2d xx)), .second, .val (.double (FP.dmul (FP.l2d xx) (4593671619917905920 : UInt64))), .second, .val (.int (1 : Int32)), .val (.ref b54), .val (.double r64), .second, .unset] []))
    refine own_st (fun t k => XS.dload X64.here hx rfl (hb hby at_189) rfl k) ?_
    show own_Go p e below K (T64.setTop (mkF m 191 #[.val (.int q1), .val (.int q2), .val (.int q3), .val (.int q4), .val (.int aa), .val (.int kk), .val (.double (4709274203742797824 : UInt64)), .second, .val (.double (4593671619917905920 : UInt64)), .second, .val (.ref b49), .val (.double (FP.l2d xx)), .second, .val (.double (FP.dmul (FP.l2d xx) (4593671619917905920 : UInt64))), .second, .val (.int (1 : Int32)), .val (.ref b54), .val (.double r64), .second, .unset] [(.double r64)]))
    refine own_st (fun t k => XS.dconst0 X64.here hx rfl (hb hby at_191) rfl k) ?_
    show own_Go p e below K (T64.setTop (mkF m 192 #[.val (.int q1), .val (.int q2), .val (.int q3), .val (.int q4), .val (.int aa), .val (.int kk), .val (.double (4709274203742797824 : UInt64)), .second, .val (.double (4593671619917905920 : UInt64)), .second, .val (.ref b49), .val (.double (FP.l2d xx)), .second, .val (.double (FP.dmul (FP.l2d xx) (4593671619917905920 : UInt64))), .second, .val (.int (1 : Int32)), .val (.ref b54), .val (.double r64), .second, .unset] [(.double FP.dconst0), (.double r64)]))
    refine own_st (fun t k => XS.dcmpS X64.here hx rfl (hb hby at_192) rfl rfl k) ?_
    show own_Go p e below K (T64.setTop (mkF m 193 #[.val (.int q1), .val (.int q2), .val (.int q3), .val (.int q4), .val (.int aa), .val (.int kk), .val (.double (4709274203742797824 : UInt64)), .second, .val (.double (4593671619917905920 : UInt64)), .second, .val (.ref b49), .val (.double (FP.l2d xx)), .second, .val (.double (FP.dmul (FP.l2d xx) (4593671619917905920 : UInt64))), .second, .val (.int (1 : Int32)), .val (.ref b54), .val (.double r64), .second, .unset] [(.int (cmpValue (FP.dcmp r64 FP.dconst0) .g))]))
    refine own_st (fun t k => XS.ifNo X64.here hx rfl (hb hby at_193) rfl ((if0 _ _).trans (flt (own_ng (hr64 ▸ ((own_bnd (x := xx) (own_g rfl hpb)).2 (own_x1 hc153)).2) : ¬ ((0 : Int32) < (cmpValue (FP.dcmp r64 FP.dconst0) .g)))).2.2.1) k) ?_
    show own_Go p e below K (T64.setTop (mkF m 196 #[.val (.int q1), .val (.int q2), .val (.int q3), .val (.int q4), .val (.int aa), .val (.int kk), .val (.double (4709274203742797824 : UInt64)), .second, .val (.double (4593671619917905920 : UInt64)), .second, .val (.ref b49), .val (.double (FP.l2d xx)), .second, .val (.double (FP.dmul (FP.l2d xx) (4593671619917905920 : UInt64))), .second, .val (.int (1 : Int32)), .val (.ref b54), .val (.double r64), .second, .unset] []))
    refine own_st (fun t k => XS.iconst X64.here hx rfl (hb hby at_196) k) ?_
    show own_Go p e below K (T64.setTop (mkF m 197 #[.val (.int q1), .val (.int q2), .val (.int q3), .val (.int q4), .val (.int aa), .val (.int kk), .val (.double (4709274203742797824 : UInt64)), .second, .val (.double (4593671619917905920 : UInt64)), .second, .val (.ref b49), .val (.double (FP.l2d xx)), .second, .val (.double (FP.dmul (FP.l2d xx) (4593671619917905920 : UInt64))), .second, .val (.int (1 : Int32)), .val (.ref b54), .val (.double r64), .second, .unset] [(.int (1 : Int32))]))
    refine own_st (fun t k => XS.goto X64.here hx rfl (pc0 := 197) (pc' := 201) rfl (hb hby at_197) (by decide) (by decide) k) ?_
    show own_Go p e below K (T64.setTop (mkF m 201 #[.val (.int q1), .val (.int q2), .val (.int q3), .val (.int q4), .val (.int aa), .val (.int kk), .val (.double (4709274203742797824 : UInt64)), .second, .val (.double (4593671619917905920 : UInt64)), .second, .val (.ref b49), .val (.double (FP.l2d xx)), .second, .val (.double (FP.dmul (FP.l2d xx) (4593671619917905920 : UInt64))), .second, .val (.int (1 : Int32)), .val (.ref b54), .val (.double r64), .second, .unset] [(.int (1 : Int32))]))
    refine own_st (fun t k => XS.istore X64.here hx rfl (hb hby at_201) rfl (l' := #[.val (.int q1), .val (.int q2), .val (.int q3), .val (.int q4), .val (.int aa), .val (.int kk), .val (.double (4709274203742797824 : UInt64)), .second, .val (.double (4593671619917905920 : UInt64)), .second, .val (.ref b49), .val (.double (FP.l2d xx)), .second, .val (.double (FP.dmul (FP.l2d xx) (4593671619917905920 : UInt64))), .second, .val (.int (1 : Int32)), .val (.ref b54), .val (.double r64), .second, .val (.int (1 : Int32))]) rfl k) ?_
    show own_Go p e below K (T64.setTop (mkF m 203 #[.val (.int q1), .val (.int q2), .val (.int q3), .val (.int q4), .val (.int aa), .val (.int kk), .val (.double (4709274203742797824 : UInt64)), .second, .val (.double (4593671619917905920 : UInt64)), .second, .val (.ref b49), .val (.double (FP.l2d xx)), .second, .val (.double (FP.dmul (FP.l2d xx) (4593671619917905920 : UInt64))), .second, .val (.int (1 : Int32)), .val (.ref b54), .val (.double r64), .second, .val (.int (1 : Int32))] []))
    refine own_st (fun t k => XS.iload X64.here hx rfl (hb hby at_203) rfl k) ?_
    show own_Go p e below K (T64.setTop (mkF m 205 #[.val (.int q1), .val (.int q2), .val (.int q3), .val (.int q4), .val (.int aa), .val (.int kk), .val (.double (4709274203742797824 : UInt64)), .second, .val (.double (4593671619917905920 : UInt64)), .second, .val (.ref b49), .val (.double (FP.l2d xx)), .second, .val (.double (FP.dmul (FP.l2d xx) (4593671619917905920 : UInt64))), .second, .val (.int (1 : Int32)), .val (.ref b54), .val (.double r64), .second, .val (.int (1 : Int32))] [(.int (1 : Int32))]))
    refine own_st (fun t k => XS.ifNo X64.here hx rfl (hb hby at_205) rfl ((if0 _ _).trans (feq (by decide : ¬ ((1 : Int32) = (0 : Int32)))).1) k) ?_
    show own_Go p e below K (T64.setTop (mkF m 208 #[.val (.int q1), .val (.int q2), .val (.int q3), .val (.int q4), .val (.int aa), .val (.int kk), .val (.double (4709274203742797824 : UInt64)), .second, .val (.double (4593671619917905920 : UInt64)), .second, .val (.ref b49), .val (.double (FP.l2d xx)), .second, .val (.double (FP.dmul (FP.l2d xx) (4593671619917905920 : UInt64))), .second, .val (.int (1 : Int32)), .val (.ref b54), .val (.double r64), .second, .val (.int (1 : Int32))] []))
    refine own_st (fun t k => XS.iload X64.here hx rfl (hb hby at_208) rfl k) ?_
    show own_Go p e below K (T64.setTop (mkF m 210 #[.val (.int q1), .val (.int q2), .val (.int q3), .val (.int q4), .val (.int aa), .val (.int kk), .val (.double (4709274203742797824 : UInt64)), .second, .val (.double (4593671619917905920 : UInt64)), .second, .val (.ref b49), .val (.double (FP.l2d xx)), .second, .val (.double (FP.dmul (FP.l2d xx) (4593671619917905920 : UInt64))), .second, .val (.int (1 : Int32)), .val (.ref b54), .val (.double r64), .second, .val (.int (1 : Int32))] [(.int (1 : Int32))]))
    refine own_st (fun t k => XS.ifNo X64.here hx rfl (hb hby at_210) rfl ((if0 _ _).trans (feq (by decide : ¬ ((1 : Int32) = (0 : Int32)))).1) k) ?_
    show own_Go p e below K (T64.setTop (mkF m 213 #[.val (.int q1), .val (.int q2), .val (.int q3), .val (.int q4), .val (.int aa), .val (.int kk), .val (.double (4709274203742797824 : UInt64)), .second, .val (.double (4593671619917905920 : UInt64)), .second, .val (.ref b49), .val (.double (FP.l2d xx)), .second, .val (.double (FP.dmul (FP.l2d xx) (4593671619917905920 : UInt64))), .second, .val (.int (1 : Int32)), .val (.ref b54), .val (.double r64), .second, .val (.int (1 : Int32))] []))
    refine own_st (fun t k => XS.iconst X64.here hx rfl (hb hby at_213) k) ?_
    show own_Go p e below K (T64.setTop (mkF m 214 #[.val (.int q1), .val (.int q2), .val (.int q3), .val (.int q4), .val (.int aa), .val (.int kk), .val (.double (4709274203742797824 : UInt64)), .second, .val (.double (4593671619917905920 : UInt64)), .second, .val (.ref b49), .val (.double (FP.l2d xx)), .second, .val (.double (FP.dmul (FP.l2d xx) (4593671619917905920 : UInt64))), .second, .val (.int (1 : Int32)), .val (.ref b54), .val (.double r64), .second, .val (.int (1 : Int32))] [(.int (1 : Int32))]))
    refine own_st (fun t k => XS.goto X64.here hx rfl (pc0 := 214) (pc' := 218) rfl (hb hby at_214) (by decide) (by decide) k) ?_
    show own_Go p e below K (T64.setTop (mkF m 218 #[.val (.int q1), .val (.int q2), .val (.int q3), .val (.int q4), .val (.int aa), .val (.int kk), .val (.double (4709274203742797824 : UInt64)), .second, .val (.double (4593671619917905920 : UInt64)), .second, .val (.ref b49), .val (.double (FP.l2d xx)), .second, .val (.double (FP.dmul (FP.l2d xx) (4593671619917905920 : UInt64))), .second, .val (.int (1 : Int32)), .val (.ref b54), .val (.double r64), .second, .val (.int (1 : Int32))] [(.int (1 : Int32))]))
    obtain ⟨fs, hr, hrun, hended, hW, hsame⟩ := X64.leave (v := some (.int (nar .boolean (1 : Int32)))) (fun h => by rw [Bd.returns] at h; cases h)
    refine ⟨_, retN X64 hx (t := .boolean) Bd.returns (by simp) (hb hby at_218) hr, fin _ _ _ hrun hended ?_ ⟨⟨_, rfl⟩, hW, hsame.mono (by decide) (by decide)⟩⟩
    show Q0 Z q1 q2 q3 q4 h0 n0 _ T64.heap _
    rw [e64]
    exact ⟨rfl, N64⟩
  refine own_st (fun t k => XS.ifNo X64.here hx rfl (hb hby at_153) rfl ((if0 _ _).trans (flt (fun q => hc153 ((lw_lt xx (0 : Int64)).mp q))).1) k) ?_
  show own_Go p e below K (T64.setTop (mkF m 156 #[.val (.int q1), .val (.int q2), .val (.int q3), .val (.int q4), .val (.int aa), .val (.int kk), .val (.double (4709274203742797824 : UInt64)), .second, .val (.double (4593671619917905920 : UInt64)), .second, .val (.ref b49), .val (.double (FP.l2d xx)), .second, .val (.double (FP.dmul (FP.l2d xx) (4593671619917905920 : UInt64))), .second, .val (.int (1 : Int32)), .val (.ref b54), .val (.double r64), .second, .unset] []))
  refine own_st (fun t k => XS.dconst0 X64.here hx rfl (hb hby at_156) rfl k) ?_
  show own_Go p e below K (T64.setTop (mkF m 157 #[.val (.int q1), .val (.int q2), .val (.int q3), .val (.int q4), .val (.int aa), .val (.int kk), .val (.double (4709274203742797824 : UInt64)), .second, .val (.double (4593671619917905920 : UInt64)), .second, .val (.ref b49), .val (.double (FP.l2d xx)), .second, .val (.double (FP.dmul (FP.l2d xx) (4593671619917905920 : UInt64))), .second, .val (.int (1 : Int32)), .val (.ref b54), .val (.double r64), .second, .unset] [(.double FP.dconst0)]))
  refine own_st (fun t k => XS.dload X64.here hx rfl (hb hby at_157) rfl k) ?_
  show own_Go p e below K (T64.setTop (mkF m 159 #[.val (.int q1), .val (.int q2), .val (.int q3), .val (.int q4), .val (.int aa), .val (.int kk), .val (.double (4709274203742797824 : UInt64)), .second, .val (.double (4593671619917905920 : UInt64)), .second, .val (.ref b49), .val (.double (FP.l2d xx)), .second, .val (.double (FP.dmul (FP.l2d xx) (4593671619917905920 : UInt64))), .second, .val (.int (1 : Int32)), .val (.ref b54), .val (.double r64), .second, .unset] [(.double r64), (.double FP.dconst0)]))
  refine own_st (fun t k => XS.dcmpS X64.here hx rfl (hb hby at_159) rfl rfl k) ?_
  show own_Go p e below K (T64.setTop (mkF m 160 #[.val (.int q1), .val (.int q2), .val (.int q3), .val (.int q4), .val (.int aa), .val (.int kk), .val (.double (4709274203742797824 : UInt64)), .second, .val (.double (4593671619917905920 : UInt64)), .second, .val (.ref b49), .val (.double (FP.l2d xx)), .second, .val (.double (FP.dmul (FP.l2d xx) (4593671619917905920 : UInt64))), .second, .val (.int (1 : Int32)), .val (.ref b54), .val (.double r64), .second, .unset] [(.int (cmpValue (FP.dcmp FP.dconst0 r64) .g))]))
  refine own_st (fun t k => XS.ifNo X64.here hx rfl (hb hby at_160) rfl ((if0 _ _).trans (flt (own_ng (hr64 ▸ ((own_bnd (x := xx) (own_g rfl hpb)).1 (own_x0 hc153)).1) : ¬ ((0 : Int32) < (cmpValue (FP.dcmp FP.dconst0 r64) .g)))).2.2.1) k) ?_
  show own_Go p e below K (T64.setTop (mkF m 163 #[.val (.int q1), .val (.int q2), .val (.int q3), .val (.int q4), .val (.int aa), .val (.int kk), .val (.double (4709274203742797824 : UInt64)), .second, .val (.double (4593671619917905920 : UInt64)), .second, .val (.ref b49), .val (.double (FP.l2d xx)), .second, .val (.double (FP.dmul (FP.l2d xx) (4593671619917905920 : UInt64))), .second, .val (.int (1 : Int32)), .val (.ref b54), .val (.double r64), .second, .unset] []))
  refine own_st (fun t k => XS.dload X64.here hx rfl (hb hby at_163) rfl k) ?_
  show own_Go p e below K (T64.setTop (mkF m 165 #[.val (.int q1), .val (.int q2), .val (.int q3), .val (.int q4), .val (.int aa), .val (.int kk), .val (.double (4709274203742797824 : UInt64)), .second, .val (.double (4593671619917905920 : UInt64)), .second, .val (.ref b49), .val (.double (FP.l2d xx)), .second, .val (.double (FP.dmul (FP.l2d xx) (4593671619917905920 : UInt64))), .second, .val (.int (1 : Int32)), .val (.ref b54), .val (.double r64), .second, .unset] [(.double r64)]))
  refine own_st (fun t k => XS.dload X64.here hx rfl (hb hby at_165) rfl k) ?_
  show own_Go p e below K (T64.setTop (mkF m 167 #[.val (.int q1), .val (.int q2), .val (.int q3), .val (.int q4), .val (.int aa), .val (.int kk), .val (.double (4709274203742797824 : UInt64)), .second, .val (.double (4593671619917905920 : UInt64)), .second, .val (.ref b49), .val (.double (FP.l2d xx)), .second, .val (.double (FP.dmul (FP.l2d xx) (4593671619917905920 : UInt64))), .second, .val (.int (1 : Int32)), .val (.ref b54), .val (.double r64), .second, .unset] [(.double (FP.l2d xx)), (.double r64)]))
  refine own_st (fun t k => XS.dcmpS X64.here hx rfl (hb hby at_167) rfl rfl k) ?_
  show own_Go p e below K (T64.setTop (mkF m 168 #[.val (.int q1), .val (.int q2), .val (.int q3), .val (.int q4), .val (.int aa), .val (.int kk), .val (.double (4709274203742797824 : UInt64)), .second, .val (.double (4593671619917905920 : UInt64)), .second, .val (.ref b49), .val (.double (FP.l2d xx)), .second, .val (.double (FP.dmul (FP.l2d xx) (4593671619917905920 : UInt64))), .second, .val (.int (1 : Int32)), .val (.ref b54), .val (.double r64), .second, .unset] [(.int (cmpValue (FP.dcmp r64 (FP.l2d xx)) .g))]))
  refine own_st (fun t k => XS.ifNo X64.here hx rfl (hb hby at_168) rfl ((if0 _ _).trans (flt (own_ng (hr64 ▸ ((own_bnd (x := xx) (own_g rfl hpb)).1 (own_x0 hc153)).2) : ¬ ((0 : Int32) < (cmpValue (FP.dcmp r64 (FP.l2d xx)) .g)))).2.2.1) k) ?_
  show own_Go p e below K (T64.setTop (mkF m 171 #[.val (.int q1), .val (.int q2), .val (.int q3), .val (.int q4), .val (.int aa), .val (.int kk), .val (.double (4709274203742797824 : UInt64)), .second, .val (.double (4593671619917905920 : UInt64)), .second, .val (.ref b49), .val (.double (FP.l2d xx)), .second, .val (.double (FP.dmul (FP.l2d xx) (4593671619917905920 : UInt64))), .second, .val (.int (1 : Int32)), .val (.ref b54), .val (.double r64), .second, .unset] []))
  refine own_st (fun t k => XS.iconst X64.here hx rfl (hb hby at_171) k) ?_
  show own_Go p e below K (T64.setTop (mkF m 172 #[.val (.int q1), .val (.int q2), .val (.int q3), .val (.int q4), .val (.int aa), .val (.int kk), .val (.double (4709274203742797824 : UInt64)), .second, .val (.double (4593671619917905920 : UInt64)), .second, .val (.ref b49), .val (.double (FP.l2d xx)), .second, .val (.double (FP.dmul (FP.l2d xx) (4593671619917905920 : UInt64))), .second, .val (.int (1 : Int32)), .val (.ref b54), .val (.double r64), .second, .unset] [(.int (1 : Int32))]))
  refine own_st (fun t k => XS.goto X64.here hx rfl (pc0 := 172) (pc' := 176) rfl (hb hby at_172) (by decide) (by decide) k) ?_
  show own_Go p e below K (T64.setTop (mkF m 176 #[.val (.int q1), .val (.int q2), .val (.int q3), .val (.int q4), .val (.int aa), .val (.int kk), .val (.double (4709274203742797824 : UInt64)), .second, .val (.double (4593671619917905920 : UInt64)), .second, .val (.ref b49), .val (.double (FP.l2d xx)), .second, .val (.double (FP.dmul (FP.l2d xx) (4593671619917905920 : UInt64))), .second, .val (.int (1 : Int32)), .val (.ref b54), .val (.double r64), .second, .unset] [(.int (1 : Int32))]))
  refine own_st (fun t k => XS.istore X64.here hx rfl (hb hby at_176) rfl (l' := #[.val (.int q1), .val (.int q2), .val (.int q3), .val (.int q4), .val (.int aa), .val (.int kk), .val (.double (4709274203742797824 : UInt64)), .second, .val (.double (4593671619917905920 : UInt64)), .second, .val (.ref b49), .val (.double (FP.l2d xx)), .second, .val (.double (FP.dmul (FP.l2d xx) (4593671619917905920 : UInt64))), .second, .val (.int (1 : Int32)), .val (.ref b54), .val (.double r64), .second, .val (.int (1 : Int32))]) rfl k) ?_
  show own_Go p e below K (T64.setTop (mkF m 178 #[.val (.int q1), .val (.int q2), .val (.int q3), .val (.int q4), .val (.int aa), .val (.int kk), .val (.double (4709274203742797824 : UInt64)), .second, .val (.double (4593671619917905920 : UInt64)), .second, .val (.ref b49), .val (.double (FP.l2d xx)), .second, .val (.double (FP.dmul (FP.l2d xx) (4593671619917905920 : UInt64))), .second, .val (.int (1 : Int32)), .val (.ref b54), .val (.double r64), .second, .val (.int (1 : Int32))] []))
  refine own_st (fun t k => XS.goto X64.here hx rfl (pc0 := 178) (pc' := 203) rfl (hb hby at_178) (by decide) (by decide) k) ?_
  show own_Go p e below K (T64.setTop (mkF m 203 #[.val (.int q1), .val (.int q2), .val (.int q3), .val (.int q4), .val (.int aa), .val (.int kk), .val (.double (4709274203742797824 : UInt64)), .second, .val (.double (4593671619917905920 : UInt64)), .second, .val (.ref b49), .val (.double (FP.l2d xx)), .second, .val (.double (FP.dmul (FP.l2d xx) (4593671619917905920 : UInt64))), .second, .val (.int (1 : Int32)), .val (.ref b54), .val (.double r64), .second, .val (.int (1 : Int32))] []))
  refine own_st (fun t k => XS.iload X64.here hx rfl (hb hby at_203) rfl k) ?_
  show own_Go p e below K (T64.setTop (mkF m 205 #[.val (.int q1), .val (.int q2), .val (.int q3), .val (.int q4), .val (.int aa), .val (.int kk), .val (.double (4709274203742797824 : UInt64)), .second, .val (.double (4593671619917905920 : UInt64)), .second, .val (.ref b49), .val (.double (FP.l2d xx)), .second, .val (.double (FP.dmul (FP.l2d xx) (4593671619917905920 : UInt64))), .second, .val (.int (1 : Int32)), .val (.ref b54), .val (.double r64), .second, .val (.int (1 : Int32))] [(.int (1 : Int32))]))
  refine own_st (fun t k => XS.ifNo X64.here hx rfl (hb hby at_205) rfl ((if0 _ _).trans (feq (by decide : ¬ ((1 : Int32) = (0 : Int32)))).1) k) ?_
  show own_Go p e below K (T64.setTop (mkF m 208 #[.val (.int q1), .val (.int q2), .val (.int q3), .val (.int q4), .val (.int aa), .val (.int kk), .val (.double (4709274203742797824 : UInt64)), .second, .val (.double (4593671619917905920 : UInt64)), .second, .val (.ref b49), .val (.double (FP.l2d xx)), .second, .val (.double (FP.dmul (FP.l2d xx) (4593671619917905920 : UInt64))), .second, .val (.int (1 : Int32)), .val (.ref b54), .val (.double r64), .second, .val (.int (1 : Int32))] []))
  refine own_st (fun t k => XS.iload X64.here hx rfl (hb hby at_208) rfl k) ?_
  show own_Go p e below K (T64.setTop (mkF m 210 #[.val (.int q1), .val (.int q2), .val (.int q3), .val (.int q4), .val (.int aa), .val (.int kk), .val (.double (4709274203742797824 : UInt64)), .second, .val (.double (4593671619917905920 : UInt64)), .second, .val (.ref b49), .val (.double (FP.l2d xx)), .second, .val (.double (FP.dmul (FP.l2d xx) (4593671619917905920 : UInt64))), .second, .val (.int (1 : Int32)), .val (.ref b54), .val (.double r64), .second, .val (.int (1 : Int32))] [(.int (1 : Int32))]))
  refine own_st (fun t k => XS.ifNo X64.here hx rfl (hb hby at_210) rfl ((if0 _ _).trans (feq (by decide : ¬ ((1 : Int32) = (0 : Int32)))).1) k) ?_
  show own_Go p e below K (T64.setTop (mkF m 213 #[.val (.int q1), .val (.int q2), .val (.int q3), .val (.int q4), .val (.int aa), .val (.int kk), .val (.double (4709274203742797824 : UInt64)), .second, .val (.double (4593671619917905920 : UInt64)), .second, .val (.ref b49), .val (.double (FP.l2d xx)), .second, .val (.double (FP.dmul (FP.l2d xx) (4593671619917905920 : UInt64))), .second, .val (.int (1 : Int32)), .val (.ref b54), .val (.double r64), .second, .val (.int (1 : Int32))] []))
  refine own_st (fun t k => XS.iconst X64.here hx rfl (hb hby at_213) k) ?_
  show own_Go p e below K (T64.setTop (mkF m 214 #[.val (.int q1), .val (.int q2), .val (.int q3), .val (.int q4), .val (.int aa), .val (.int kk), .val (.double (4709274203742797824 : UInt64)), .second, .val (.double (4593671619917905920 : UInt64)), .second, .val (.ref b49), .val (.double (FP.l2d xx)), .second, .val (.double (FP.dmul (FP.l2d xx) (4593671619917905920 : UInt64))), .second, .val (.int (1 : Int32)), .val (.ref b54), .val (.double r64), .second, .val (.int (1 : Int32))] [(.int (1 : Int32))]))
  refine own_st (fun t k => XS.goto X64.here hx rfl (pc0 := 214) (pc' := 218) rfl (hb hby at_214) (by decide) (by decide) k) ?_
  show own_Go p e below K (T64.setTop (mkF m 218 #[.val (.int q1), .val (.int q2), .val (.int q3), .val (.int q4), .val (.int aa), .val (.int kk), .val (.double (4709274203742797824 : UInt64)), .second, .val (.double (4593671619917905920 : UInt64)), .second, .val (.ref b49), .val (.double (FP.l2d xx)), .second, .val (.double (FP.dmul (FP.l2d xx) (4593671619917905920 : UInt64))), .second, .val (.int (1 : Int32)), .val (.ref b54), .val (.double r64), .second, .val (.int (1 : Int32))] [(.int (1 : Int32))]))
  obtain ⟨fs, hr, hrun, hended, hW, hsame⟩ := X64.leave (v := some (.int (nar .boolean (1 : Int32)))) (fun h => by rw [Bd.returns] at h; cases h)
  refine ⟨_, retN X64 hx (t := .boolean) Bd.returns (by simp) (hb hby at_218) hr, fin _ _ _ hrun hended ?_ ⟨⟨_, rfl⟩, hW, hsame.mono (by decide) (by decide)⟩⟩
  show Q0 Z q1 q2 q3 q4 h0 n0 _ T64.heap _
  rw [e64]
  exact ⟨rfl, N64⟩
set_option maxRecDepth 65536 in
set_option maxHeartbeats 40000000 in
theorem comes_1 {Post : Tables → Env → Array Value → State → Outcome → State → Prop} (hpost : ∀ tb e args s v u, (limb_1_1.after args s (.returned v) u = true ∧ limb_1_2.after args s (.returned v) u = true ∧ True) → FrameEnd s (.returned v) u (Jvm.fieldLocs frame_1_writes args s ++ Jvm.arrayLocs frame_1_arrays args s ++ Jvm.staticLocs frame_1_statics s) 16 128 → Post tb e args s (.returned v) u) :
    ArmFor flags0 classFile x code maxLocals ret World_1 tables_1 room_1 Calls_1 rest_1 Pre_1 Post := by
  intro l hfl _ _ p e ha hc hk s m args below hf hA hF happ hP
  obtain ⟨hcalls, hrest, hpre⟩ := hP
  obtain ⟨-, -, -, hnamed, -, -, -, hat⟩ := (Spec.applies_iff hf).mp happ
  obtain ⟨hg, hn⟩ := and_e (Cond.before_iff.mp (show (Jvm.Cond.and given_1 narrow_1).before args s = true from hpre))
  obtain ⟨g1, g2⟩ := and_e hg
  obtain ⟨g3, g4⟩ := and_e g2
  obtain ⟨g5, g6⟩ := and_e g4
  obtain ⟨g7, g8⟩ := and_e g6
  obtain ⟨w0, w1, w2, w3, rfl⟩ : ∃ w0 w1 w2 w3 : Value, args = #[w0, w1, w2, w3] := by
    have hs : args.size = 4 := by simpa [Cond.value, given_1] using g1
    obtain ⟨L⟩ := args
    match L, hs with
    | [w0, w1, w2, w3], _ => exact ⟨w0, w1, w2, w3, rfl⟩
  have hw := fun d (hd : d ∈ tables_1) => atoms_spec (ws := Jvm.Cond.code x code maxLocals ret :: tables_1) hat d (List.mem_cons_of_mem _ hd)
  have hfit : Fit s := fun {y c} hc i hi => by
    obtain ⟨ha, rfl⟩ := Array.getElem?_eq_some_iff.mp hc
    have q := List.all_eq_true.mp ((Array.all_eq_true_iff_forall_mem.mp hF) _ (Array.getElem_mem ha)) i (List.mem_range.mpr hi)
    simpa [Array.getElem?_eq_getElem hi] using q
  obtain ⟨i0, ei0⟩ := is_v g3
  obtain rfl : w0 = (.int i0) := Option.some.inj ei0
  obtain ⟨i1, ei1⟩ := is_v g5
  obtain rfl : w1 = (.int i1) := Option.some.inj ei1
  obtain ⟨i2, ei2⟩ := is_v g7
  obtain rfl : w2 = (.int i2) := Option.some.inj ei2
  obtain ⟨i3, ei3⟩ := is_v g8
  obtain rfl : w3 = (.int i3) := Option.some.inj ei3
  obtain ⟨n, o, h1, h2, h3, _, L, rfl, ⟨rfl, N⟩, hq⟩ := rm0 l s _ hw tables_1 i0 i1 i2 i3 s.heap s.heap.size (Nat.le_refl _) p e ha hc hk s m _ below hf ((Spec.applies_iff_loose hf).mp happ).1 ⟨rfl, State.Warmed39.refl s, rfl⟩ trivial
  refine ⟨n, _, h1, h2, h3, hpost _ _ _ _ _ _ ⟨Cond.after_iff.mpr rfl, Cond.after_iff.mpr (eq_i res_at (Term.int_eval (1)) rfl), trivial⟩ ⟨hq.1, hq.2.1, (hq.2.2.sift fun y hy => Or.inr (N y hy)).mono (by decide) (by decide)⟩⟩
theorem main_1_1 : Claimed_1_1 := comes_1 fun _ _ _ _ _ _ h hF => ⟨h.1, hF⟩
theorem main_1_2 : Claimed_1_2 := comes_1 fun _ _ _ _ _ _ h hF => ⟨h.2.1, hF⟩
end Jvm.Pilot.@@N@@
namespace Jvm.Pilot.@@N@@
open Jvm Jvm.ClassFile Sem Op Lib Jvm.Free Jvm.Stand Jvm.Pilot.@@N@@.Jvm.D
/-! MADE BY PROGRAM (witnessworld.py) out of the Statement's table words and the real class files: 16 classes; the members and pool entries that the words name. The judged class is class 1, her method 1. -/
namespace start1
open Jvm.ClassFile
def u (s : String) : CpInfo := .utf8 (stringToUtf16 s)
/-- a pool by its gaps: so many unusable entries, then the entry; so many at the end -/
def gap : Nat → List CpInfo → List CpInfo
  | 0, r => r
  | n + 1, r => .unusable :: gap n r
def poolList (es : List (Nat × CpInfo)) (last : Nat) : List CpInfo := es.foldr (fun e r => gap e.1 (e.2 :: r)) (gap last [])
def pool (es : List (Nat × CpInfo)) (last : Nat) : Array CpInfo := ⟨poolList es last⟩
def fileOf (pool : Array CpInfo) (this : Nat) (attrs : Array Attribute := #[]) (ms : Array MethodInfo := #[]) (fl : Nat := 33) (sup : Nat := 0) (ifs : Array Nat := #[]) (fds : Array FieldInfo := #[]) : ClassFile where
  minorVersion := 0
  majorVersion := 65
  constantPool := pool
  accessFlags := fl
  thisClass := this
  superClass := sup
  interfaces := ifs
  fields := fds
  methods := ms
  attributes := attrs
def plain (name : String) (sup : Option ClassId) : Class where
  name := name
  kind := .ordinary
  loader := none
  accessFlags := 33
  super := sup
  interfaces := #[]
  cf := none
  fields := #[]
  methods := #[]
  instanceTypes := #[]
  staticTypes := #[]
  resolved := #[]
  callSites := []
  init := .initialized
  statics := none
  mirror := none

def pool0 : Array CpInfo := pool [(5, u "<init>"), (0, u "()V"), (1, .class_ 10), (1, u "java/lang/Object")] 113

def k0c0 : Code := { maxStack := 0, maxLocals := 1, code := object_method_1_code, exceptionTable := #[], attributes := #[] }
def k0m0 : Method := { name := "<init>", desc := "()V", sig := { parameters := [], returnType := none }, accessFlags := 1, code := some k0c0 }
/-- java/lang/Object -/
def k0 : Class := { plain "java/lang/Object" none with
  accessFlags := 33
  interfaces := #[]
  cf := some (fileOf pool0 8 #[] #[{ accessFlags := 1, nameIndex := 5, descriptorIndex := 6, attributes := #[] }] 33 0 #[] #[])
  fields := #[]
  methods := #[k0m0]
  instanceTypes := #[]
  staticTypes := #[]
  resolved := Array.replicate 124 none
  statics := none }

def pool1 : Array CpInfo := pool [(2, .class_ 4), (1, u "java/lang/Object"), (0, u "<init>"), (0, u "()V"), (0, .integer 2147483647), (0, .double 4696837146684686336), (1, .double 4602678819172646912), (1, .double 4703696862291427328), (1, .double 4598175219545276416), (1, .double 4709274203742797824), (1, .double 4593671619917905920), (1, .class_ 21), (0, u "com/example/ms2rank/ms2rank/matching/MassTolerance"), (0, .methodref 20 23), (0, .nameAndType 5 24), (0, u "(DD)V"), (0, .methodref 20 26), (0, .nameAndType 27 28), (0, u "lowestMatch"), (0, u "(D)D"), (0, .integer 1048575), (0, .class_ 31), (0, u "com/example/ms2rank/ms2rank/matching/MassToleranceLowestMatchPinLaw"), (2, u "law"), (0, u "(IIII)Z")] 3

def k1m0 : Method := { name := "<init>", desc := "()V", sig := { parameters := [], returnType := none }, accessFlags := 1, code := none }
def k1c1 : Code := { maxStack := 6, maxLocals := 20, code := code, exceptionTable := #[], attributes := #[] }
def k1m1 : Method := { name := "law", desc := "(IIII)Z", sig := { parameters := [.int, .int, .int, .int], returnType := some .boolean }, accessFlags := 9, code := some k1c1 }
/-- com/example/ms2rank/ms2rank/matching/MassToleranceLowestMatchPinLaw -/
def k1 : Class := { plain "com/example/ms2rank/ms2rank/matching/MassToleranceLowestMatchPinLaw" (some 0) with
  accessFlags := 49
  interfaces := #[]
  cf := some (fileOf pool1 30 #[] #[{ accessFlags := 1, nameIndex := 5, descriptorIndex := 6, attributes := #[] }, { accessFlags := 9, nameIndex := 34, descriptorIndex := 35, attributes := #[] }] 49 2 #[] #[])
  fields := #[]
  methods := #[k1m0, k1m1]
  instanceTypes := #[]
  staticTypes := #[]
  resolved := Array.replicate 39 none
  statics := none }

def pool2 : Array CpInfo := pool [(1, .methodref 2 3), (0, .class_ 4), (0, .nameAndType 5 6), (0, u "java/lang/Object"), (0, u "<init>"), (0, u "()V"), (0, .class_ 8), (0, u "java/lang/Record")] 13

def k2c0 : Code := { maxStack := 1, maxLocals := 1, code := jdk_30_method_1_code, exceptionTable := #[], attributes := #[] }
def k2m0 : Method := { name := "<init>", desc := "()V", sig := { parameters := [], returnType := none }, accessFlags := 4, code := some k2c0 }
/-- java/lang/Record -/
def k2 : Class := { plain "java/lang/Record" (some 0) with
  accessFlags := 1057
  interfaces := #[]
  cf := some (fileOf pool2 7 #[] #[{ accessFlags := 4, nameIndex := 5, descriptorIndex := 6, attributes := #[] }] 1057 2 #[] #[])
  fields := #[]
  methods := #[k2m0]
  instanceTypes := #[]
  staticTypes := #[]
  resolved := Array.replicate 22 none
  statics := none }

def pool3 : Array CpInfo := pool [(1, .methodref 2 3), (0, .class_ 4), (0, .nameAndType 5 6), (0, u "java/lang/Record"), (0, u "<init>"), (0, u "()V"), (0, .methodref 8 9), (0, .class_ 10), (0, .nameAndType 11 12), (0, u "java/lang/Double"), (0, u "isInfinite"), (0, u "(D)Z"), (10, .fieldref 24 25), (0, .class_ 26), (0, .nameAndType 27 28), (0, u "com/example/ms2rank/ms2rank/matching/MassTolerance"), (0, u "ppm"), (0, u "D"), (0, .fieldref 24 30), (0, .nameAndType 31 28), (0, u "absolute"), (0, .double 4517329193108106637), (6, u "(D)D"), (15, u "(DD)V"), (7, u "lowestMatch")] 35

def k3c0 : Code := { maxStack := 4, maxLocals := 5, code := prog_15_method_1_code, exceptionTable := #[], attributes := #[] }
def k3m0 : Method := { name := "<init>", desc := "(DD)V", sig := { parameters := [.double, .double], returnType := none }, accessFlags := 1, code := some k3c0 }
def k3c1 : Code := { maxStack := 8, maxLocals := 3, code := prog_15_method_5_code, exceptionTable := #[], attributes := #[] }
def k3m1 : Method := { name := "lowestMatch", desc := "(D)D", sig := { parameters := [.double], returnType := some .double }, accessFlags := 0, code := some k3c1 }
/-- com/example/ms2rank/ms2rank/matching/MassTolerance -/
def k3 : Class := { plain "com/example/ms2rank/ms2rank/matching/MassTolerance" (some 2) with
  accessFlags := 49
  interfaces := #[]
  cf := some (fileOf pool3 24 #[] #[{ accessFlags := 1, nameIndex := 5, descriptorIndex := 55, attributes := #[] }, { accessFlags := 0, nameIndex := 63, descriptorIndex := 39, attributes := #[] }] 49 2 #[] #[{ accessFlags := 18, nameIndex := 27, descriptorIndex := 28, attributes := #[] }, { accessFlags := 18, nameIndex := 31, descriptorIndex := 28, attributes := #[] }])
  fields := #[{ name := "ppm", type := .double, accessFlags := 18, slot := 0, constantValue := 0 }, { name := "absolute", type := .double, accessFlags := 18, slot := 1, constantValue := 0 }]
  methods := #[k3m0, k3m1]
  instanceTypes := #[.double, .double]
  staticTypes := #[]
  resolved := Array.replicate 99 none
  statics := none }

def pool4 : Array CpInfo := pool [(1, .class_ 2), (0, u "java/io/Serializable"), (0, .class_ 4), (0, u "java/lang/Object")] 2

/-- java/io/Serializable -/
def k4 : Class := { plain "java/io/Serializable" (some 0) with
  accessFlags := 1537
  interfaces := #[]
  cf := some (fileOf pool4 1 #[] #[] 1537 3 #[] #[])
  fields := #[]
  methods := #[]
  instanceTypes := #[]
  staticTypes := #[]
  resolved := Array.replicate 7 none
  statics := none }

def pool5 : Array CpInfo := pool [(2, .class_ 4), (1, u "java/lang/Object"), (0, u "<init>"), (0, u "()V"), (1, .class_ 10), (1, u "java/lang/Number"), (2, .class_ 14), (0, u "java/io/Serializable"), (0, u "serialVersionUID"), (0, u "J")] 20

def k5m0 : Method := { name := "<init>", desc := "()V", sig := { parameters := [], returnType := none }, accessFlags := 1, code := none }
/-- java/lang/Number -/
def k5 : Class := { plain "java/lang/Number" (some 0) with
  accessFlags := 1057
  interfaces := #[4]
  cf := some (fileOf pool5 8 #[] #[{ accessFlags := 1, nameIndex := 5, descriptorIndex := 6, attributes := #[] }] 1057 2 #[13] #[{ accessFlags := 26, nameIndex := 15, descriptorIndex := 16, attributes := #[] }])
  fields := #[{ name := "serialVersionUID", type := .long, accessFlags := 26, slot := 0, constantValue := 0 }]
  methods := #[k5m0]
  instanceTypes := #[]
  staticTypes := #[.long]
  resolved := Array.replicate 37 none
  statics := none }

def pool6 : Array CpInfo := pool [(1, .class_ 2), (0, u "java/lang/Comparable"), (0, .class_ 4), (0, u "java/lang/Object")] 7

/-- java/lang/Comparable -/
def k6 : Class := { plain "java/lang/Comparable" (some 0) with
  accessFlags := 1537
  interfaces := #[]
  cf := some (fileOf pool6 1 #[] #[] 1537 3 #[] #[])
  fields := #[]
  methods := #[]
  instanceTypes := #[]
  staticTypes := #[]
  resolved := Array.replicate 12 none
  statics := none }

def pool7 : Array CpInfo := pool [(1, .class_ 2), (0, u "java/lang/constant/Constable"), (0, .class_ 4), (0, u "java/lang/Object")] 6

/-- java/lang/constant/Constable -/
def k7 : Class := { plain "java/lang/constant/Constable" (some 0) with
  accessFlags := 1537
  interfaces := #[]
  cf := some (fileOf pool7 1 #[] #[] 1537 3 #[] #[])
  fields := #[]
  methods := #[]
  instanceTypes := #[]
  staticTypes := #[]
  resolved := Array.replicate 11 none
  statics := none }

def pool8 : Array CpInfo := pool [(1, .class_ 2), (0, u "java/lang/constant/ConstantDesc"), (0, .class_ 4), (0, u "java/lang/Object")] 32

/-- java/lang/constant/ConstantDesc -/
def k8 : Class := { plain "java/lang/constant/ConstantDesc" (some 0) with
  accessFlags := 1537
  interfaces := #[]
  cf := some (fileOf pool8 1 #[] #[] 1537 3 #[] #[])
  fields := #[]
  methods := #[]
  instanceTypes := #[]
  staticTypes := #[]
  resolved := Array.replicate 37 none
  statics := none }

def pool9 : Array CpInfo := pool [(1, .class_ 2), (0, u "java/lang/Double"), (11, u "(D)Z"), (8, .class_ 25), (1, u "java/lang/Math"), (12, .methodref 23 39), (0, .nameAndType 40 41), (0, u "abs"), (0, u "(D)D"), (69, .double 9218868437227405311), (2, .class_ 116), (1, u "java/lang/Number"), (3, u "value"), (0, u "D"), (5, u "isInfinite"), (45, u "TYPE"), (0, u "Ljava/lang/Class;"), (0, .class_ 176), (0, u "java/lang/Comparable"), (0, .class_ 178), (0, u "java/lang/constant/Constable"), (0, .class_ 180), (0, u "java/lang/constant/ConstantDesc"), (0, u "POSITIVE_INFINITY"), (3, u "NEGATIVE_INFINITY"), (2, u "NaN"), (2, u "MAX_VALUE"), (0, u "MIN_NORMAL"), (0, u "MIN_VALUE"), (2, u "SIZE"), (0, u "I"), (1, u "PRECISION"), (1, u "MAX_EXPONENT"), (1, u "MIN_EXPONENT"), (1, u "BYTES"), (3, u "serialVersionUID"), (0, u "J")] 79

def k9c0 : Code := { maxStack := 4, maxLocals := 2, code := jdk_117_method_7_code, exceptionTable := #[], attributes := #[] }
def k9m0 : Method := { name := "isInfinite", desc := "(D)Z", sig := { parameters := [.double], returnType := some .boolean }, accessFlags := 9, code := some k9c0 }
/-- java/lang/Double -/
def k9 : Class := { plain "java/lang/Double" (some 5) with
  accessFlags := 49
  interfaces := #[6, 7, 8]
  cf := some (fileOf pool9 1 #[] #[{ accessFlags := 9, nameIndex := 127, descriptorIndex := 14, attributes := #[] }] 49 114 #[175, 177, 179] #[{ accessFlags := 25, nameIndex := 181, descriptorIndex := 121, attributes := #[] }, { accessFlags := 25, nameIndex := 185, descriptorIndex := 121, attributes := #[] }, { accessFlags := 25, nameIndex := 188, descriptorIndex := 121, attributes := #[] }, { accessFlags := 25, nameIndex := 191, descriptorIndex := 121, attributes := #[] }, { accessFlags := 25, nameIndex := 192, descriptorIndex := 121, attributes := #[] }, { accessFlags := 25, nameIndex := 193, descriptorIndex := 121, attributes := #[] }, { accessFlags := 25, nameIndex := 196, descriptorIndex := 197, attributes := #[] }, { accessFlags := 25, nameIndex := 199, descriptorIndex := 197, attributes := #[] }, { accessFlags := 25, nameIndex := 201, descriptorIndex := 197, attributes := #[] }, { accessFlags := 25, nameIndex := 203, descriptorIndex := 197, attributes := #[] }, { accessFlags := 25, nameIndex := 205, descriptorIndex := 197, attributes := #[] }, { accessFlags := 25, nameIndex := 173, descriptorIndex := 174, attributes := #[] }, { accessFlags := 18, nameIndex := 120, descriptorIndex := 121, attributes := #[] }, { accessFlags := 26, nameIndex := 209, descriptorIndex := 210, attributes := #[] }])
  fields := #[{ name := "POSITIVE_INFINITY", type := .double, accessFlags := 25, slot := 0, constantValue := 0 }, { name := "NEGATIVE_INFINITY", type := .double, accessFlags := 25, slot := 1, constantValue := 0 }, { name := "NaN", type := .double, accessFlags := 25, slot := 2, constantValue := 0 }, { name := "MAX_VALUE", type := .double, accessFlags := 25, slot := 3, constantValue := 0 }, { name := "MIN_NORMAL", type := .double, accessFlags := 25, slot := 4, constantValue := 0 }, { name := "MIN_VALUE", type := .double, accessFlags := 25, slot := 5, constantValue := 0 }, { name := "SIZE", type := .int, accessFlags := 25, slot := 6, constantValue := 0 }, { name := "PRECISION", type := .int, accessFlags := 25, slot := 7, constantValue := 0 }, { name := "MAX_EXPONENT", type := .int, accessFlags := 25, slot := 8, constantValue := 0 }, { name := "MIN_EXPONENT", type := .int, accessFlags := 25, slot := 9, constantValue := 0 }, { name := "BYTES", type := .int, accessFlags := 25, slot := 10, constantValue := 0 }, { name := "TYPE", type := (.object "java/lang/Class"), accessFlags := 25, slot := 11, constantValue := 0 }, { name := "value", type := .double, accessFlags := 18, slot := 0, constantValue := 0 }, { name := "serialVersionUID", type := .long, accessFlags := 26, slot := 12, constantValue := 0 }]
  methods := #[k9m0]
  instanceTypes := #[.double]
  staticTypes := #[.double, .double, .double, .double, .double, .double, .int, .int, .int, .int, .int, (.object "java/lang/Class"), .long]
  resolved := Array.replicate 290 none
  statics := none }

def pool10 : Array CpInfo := pool [(1, .class_ 2), (0, u "java/lang/Math"), (1, .class_ 6), (1, u "java/lang/Object"), (0, u "<init>"), (0, u "()V"), (5, u "(D)D"), (83, .class_ 100), (1, u "java/lang/Math$RandomNumberGeneratorHolder"), (23, u "abs"), (47, u "negativeZeroFloatBits"), (0, u "J"), (2, u "negativeZeroDoubleBits"), (68, u "$assertionsDisabled"), (0, u "Z"), (91, u "twoToTheDoubleScaleDown"), (0, u "D"), (4, u "twoToTheDoubleScaleUp"), (9, u "E"), (3, u "PI"), (2, u "TAU"), (2, u "DEGREES_TO_RADIANS"), (0, u "RADIANS_TO_DEGREES")] 94

def k10m0 : Method := { name := "<init>", desc := "()V", sig := { parameters := [], returnType := none }, accessFlags := 2, code := none }
def k10c1 : Code := { maxStack := 4, maxLocals := 2, code := jdk_29_method_64_code, exceptionTable := #[], attributes := #[] }
def k10m1 : Method := { name := "abs", desc := "(D)D", sig := { parameters := [.double], returnType := some .double }, accessFlags := 9, code := some k10c1 }
/-- java/lang/Math -/
def k10 : Class := { plain "java/lang/Math" (some 0) with
  accessFlags := 49
  interfaces := #[]
  cf := some (fileOf pool10 1 #[.nestMembers #[98]] #[{ accessFlags := 2, nameIndex := 7, descriptorIndex := 8, attributes := #[] }, { accessFlags := 9, nameIndex := 124, descriptorIndex := 14, attributes := #[] }] 49 4 #[] #[{ accessFlags := 25, nameIndex := 354, descriptorIndex := 339, attributes := #[] }, { accessFlags := 25, nameIndex := 358, descriptorIndex := 339, attributes := #[] }, { accessFlags := 25, nameIndex := 361, descriptorIndex := 339, attributes := #[] }, { accessFlags := 26, nameIndex := 364, descriptorIndex := 339, attributes := #[] }, { accessFlags := 26, nameIndex := 365, descriptorIndex := 339, attributes := #[] }, { accessFlags := 26, nameIndex := 172, descriptorIndex := 173, attributes := #[] }, { accessFlags := 26, nameIndex := 176, descriptorIndex := 173, attributes := #[] }, { accessFlags := 8, nameIndex := 344, descriptorIndex := 339, attributes := #[] }, { accessFlags := 8, nameIndex := 338, descriptorIndex := 339, attributes := #[] }, { accessFlags := 4120, nameIndex := 245, descriptorIndex := 246, attributes := #[] }])
  fields := #[{ name := "E", type := .double, accessFlags := 25, slot := 0, constantValue := 0 }, { name := "PI", type := .double, accessFlags := 25, slot := 1, constantValue := 0 }, { name := "TAU", type := .double, accessFlags := 25, slot := 2, constantValue := 0 }, { name := "DEGREES_TO_RADIANS", type := .double, accessFlags := 26, slot := 3, constantValue := 0 }, { name := "RADIANS_TO_DEGREES", type := .double, accessFlags := 26, slot := 4, constantValue := 0 }, { name := "negativeZeroFloatBits", type := .long, accessFlags := 26, slot := 5, constantValue := 0 }, { name := "negativeZeroDoubleBits", type := .long, accessFlags := 26, slot := 6, constantValue := 0 }, { name := "twoToTheDoubleScaleUp", type := .double, accessFlags := 8, slot := 7, constantValue := 0 }, { name := "twoToTheDoubleScaleDown", type := .double, accessFlags := 8, slot := 8, constantValue := 0 }, { name := "$assertionsDisabled", type := .boolean, accessFlags := 4120, slot := 9, constantValue := 0 }]
  methods := #[k10m0, k10m1]
  instanceTypes := #[]
  staticTypes := #[.double, .double, .double, .double, .double, .long, .long, .double, .double, .boolean]
  resolved := Array.replicate 460 none
  statics := none }

def pool11 : Array CpInfo := pool [(1, u "java/lang/Cloneable"), (0, .class_ 1), (0, u "java/lang/Object"), (0, .class_ 3)] 3

/-- java/lang/Cloneable -/
def k11 : Class := { plain "java/lang/Cloneable" (some 0) with
  accessFlags := 1537
  interfaces := #[]
  cf := some (fileOf pool11 2 #[] #[] 1537 4 #[] #[])
  fields := #[]
  methods := #[]
  instanceTypes := #[]
  staticTypes := #[]
  resolved := Array.replicate 8 none
  statics := none }

/-- the primitive byte -/
def k12 : Class := { plain "byte" none with kind := .primitive 'B', accessFlags := 0x411 }
/-- [B -/
def k13 : Class := { plain "[B" (some 0) with kind := .array 12 .byte, interfaces := #[11, 4], accessFlags := 1041 }

/-- the primitive int -/
def k14 : Class := { plain "int" none with kind := .primitive 'I', accessFlags := 0x411 }
/-- [I -/
def k15 : Class := { plain "[I" (some 0) with kind := .array 14 .int, interfaces := #[11, 4], accessFlags := 1041 }

def heap : Heap := #[]
def classes : Array Class := #[k0, k1, k2, k3, k4, k5, k6, k7, k8, k9, k10, k11, k12, k13, k14, k15]
def interned : List (Array UInt16 × Addr) := []
def slotsUsed : Nat := 0
def theMethod : MethodId := ⟨1, 1⟩
def args0 : Array Value := #[.int 5, .int 6, .int 7, .int 8]
def aboutOver (below : List Frame) : State where
  vm := { classes := classes, interned := interned.toArray }
  heap := heap
  slotsUsed := slotsUsed
  threads := #[{ frames := .invoking theMethod args0 :: below }]
def below0 : List Frame := [.native { method := ⟨0, 0⟩, args := #[] }]
def about1 : State := aboutOver below0
def p0 : Program := .bare "" "" ""
def e0 : Env := launch0.env 0 0 0
theorem w_frames : about1.frames = Frame.invoking theMethod args0 :: below0 := rfl
set_option maxRecDepth 65536 in
theorem w_args : argsFit about1.vm theMethod args0 = true := by decide +kernel
set_option maxRecDepth 65536 in
theorem w_heap : heapFits about1 = true := by decide +kernel
set_option maxRecDepth 65536 in
theorem w_runnable : about1.curStatus? = some .runnable := by decide +kernel
set_option maxRecDepth 65536 in
theorem w_alone : about1.alone = true := by decide +kernel
set_option maxRecDepth 65536 in
theorem w_named : about1.methodNamed? x = some theMethod := by decide +kernel
set_option maxRecDepth 65536 in
theorem w_hears : about1.hears theMethod below0 = true := by decide +kernel
set_option maxRecDepth 65536 in
theorem w_ripe : about1.ripe theMethod args0 below0 = true := by decide +kernel
theorem w_running : about1.status = .running := rfl
set_option maxRecDepth 65536 in
theorem w_room : about1.hasRoom e0.platform room_1 = true :=
  launch0.hasRoom_least _ room_1 (by decide +kernel) (by decide +kernel) (by decide +kernel) (by decide +kernel) (by decide +kernel) (by decide +kernel)
theorem allAtoms_all (ts : List Jvm.Cond) (a : Array Jvm.Value) (st : Jvm.State) : (allAtoms ts).before a st = ts.all (fun c => c.before a st) := by
  induction ts with
  | nil => rfl
  | cons c t ih =>
    show (Jvm.Cond.and c (allAtoms t)).before a st = _
    rw [Jvm.Cond.before_and, ih, List.all_cons]
def words1 : List Jvm.Cond := Jvm.Cond.code x code maxLocals ret :: tables_1
/-- a 'code' word, met by the world's own term for the bytes: nothing is compared byte by byte -/
theorem code_word {y : MethodName} {bytes : ByteArray} {mx : Nat} {rt : Option FieldType} {a : Array Value} {s : State} {m : MethodId} {meth : Method} {c : Code} (h1 : s.methodNamed? y = some m) (h2 : s.vm.method? m = some meth) (h3 : meth.code = some c) (h4 : c.code = bytes)
    (h5 : (c.maxLocals == mx && c.exceptionTable.isEmpty && decide (c.maxStack ≤ mostOperands) && decide (meth.sig.returnType = rt) && !meth.locks && decide (parseMethodDescriptor y.desc = some meth.sig)) = true) : (Jvm.Cond.code y bytes mx rt).before a s = true := by
  simp only [Bool.and_eq_true, beq_iff_eq, Bool.not_eq_true', decide_eq_true_eq] at h5
  obtain ⟨⟨⟨⟨⟨g1, g2⟩, g3⟩, g4⟩, g5⟩, g6⟩ := h5
  simp [Cond.before, Cond.holds, Cond.value, h1, h2, h3, h4, g1, g2, g3, g4, g5, g6]
def isCode : Jvm.Cond → Bool
  | .code _ _ _ _ => true
  | _ => false
theorem all_split {L : List Jvm.Cond} {P : Jvm.Cond → Bool} (h1 : L.all (fun c => isCode c || P c) = true) (h2 : ∀ c ∈ L.filter isCode, P c = true) : L.all P = true := by
  refine List.all_eq_true.mpr fun c hc => ?_
  have h := List.all_eq_true.mp h1 c hc
  rcases Bool.eq_false_or_eq_true (isCode c) with hi | hi
  · exact h2 c (List.mem_filter.mpr ⟨hc, hi⟩)
  · simpa [hi] using h
set_option maxRecDepth 65536 in
theorem w_c0 : (Jvm.Cond.code x code maxLocals ret).before args0 about1 = true := code_word (m := ⟨1, 1⟩) (meth := k1m1) (c := k1c1) (by decide +kernel) rfl rfl rfl (by decide +kernel)
set_option maxRecDepth 65536 in
theorem w_c1 : (Jvm.Cond.code ({ cls := "com/example/ms2rank/ms2rank/matching/MassTolerance", name := "<init>", desc := "(DD)V" } : Jvm.MethodName) prog_15_method_1_code (5 : Nat) (Option.none : Option Jvm.ClassFile.FieldType)).before args0 about1 = true := code_word (m := ⟨3, 0⟩) (meth := k3m0) (c := k3c0) (by decide +kernel) rfl rfl rfl (by decide +kernel)
set_option maxRecDepth 65536 in
theorem w_c2 : (Jvm.Cond.code ({ cls := "java/lang/Record", name := "<init>", desc := "()V" } : Jvm.MethodName) jdk_30_method_1_code (1 : Nat) (Option.none : Option Jvm.ClassFile.FieldType)).before args0 about1 = true := code_word (m := ⟨2, 0⟩) (meth := k2m0) (c := k2c0) (by decide +kernel) rfl rfl rfl (by decide +kernel)
set_option maxRecDepth 65536 in
theorem w_c3 : (Jvm.Cond.code ({ cls := "java/lang/Object", name := "<init>", desc := "()V" } : Jvm.MethodName) object_method_1_code (1 : Nat) (Option.none : Option Jvm.ClassFile.FieldType)).before args0 about1 = true := code_word (m := ⟨0, 0⟩) (meth := k0m0) (c := k0c0) (by decide +kernel) rfl rfl rfl (by decide +kernel)
set_option maxRecDepth 65536 in
theorem w_c4 : (Jvm.Cond.code ({ cls := "java/lang/Double", name := "isInfinite", desc := "(D)Z" } : Jvm.MethodName) jdk_117_method_7_code (2 : Nat) (Option.some Jvm.ClassFile.FieldType.boolean)).before args0 about1 = true := code_word (m := ⟨9, 0⟩) (meth := k9m0) (c := k9c0) (by decide +kernel) rfl rfl rfl (by decide +kernel)
set_option maxRecDepth 65536 in
theorem w_c5 : (Jvm.Cond.code ({ cls := "java/lang/Math", name := "abs", desc := "(D)D" } : Jvm.MethodName) jdk_29_method_64_code (2 : Nat) (Option.some Jvm.ClassFile.FieldType.double)).before args0 about1 = true := code_word (m := ⟨10, 1⟩) (meth := k10m1) (c := k10c1) (by decide +kernel) rfl rfl rfl (by decide +kernel)
set_option maxRecDepth 65536 in
theorem w_c6 : (Jvm.Cond.code ({ cls := "com/example/ms2rank/ms2rank/matching/MassTolerance", name := "lowestMatch", desc := "(D)D" } : Jvm.MethodName) prog_15_method_5_code (3 : Nat) (Option.some Jvm.ClassFile.FieldType.double)).before args0 about1 = true := code_word (m := ⟨3, 1⟩) (meth := k3m1) (c := k3c1) (by decide +kernel) rfl rfl rfl (by decide +kernel)
def codes1 : List Jvm.Cond := [Jvm.Cond.code x code maxLocals ret, Jvm.Cond.code ({ cls := "com/example/ms2rank/ms2rank/matching/MassTolerance", name := "<init>", desc := "(DD)V" } : Jvm.MethodName) prog_15_method_1_code (5 : Nat) (Option.none : Option Jvm.ClassFile.FieldType), Jvm.Cond.code ({ cls := "java/lang/Record", name := "<init>", desc := "()V" } : Jvm.MethodName) jdk_30_method_1_code (1 : Nat) (Option.none : Option Jvm.ClassFile.FieldType), Jvm.Cond.code ({ cls := "java/lang/Object", name := "<init>", desc := "()V" } : Jvm.MethodName) object_method_1_code (1 : Nat) (Option.none : Option Jvm.ClassFile.FieldType), Jvm.Cond.code ({ cls := "java/lang/Double", name := "isInfinite", desc := "(D)Z" } : Jvm.MethodName) jdk_117_method_7_code (2 : Nat) (Option.some Jvm.ClassFile.FieldType.boolean), Jvm.Cond.code ({ cls := "java/lang/Math", name := "abs", desc := "(D)D" } : Jvm.MethodName) jdk_29_method_64_code (2 : Nat) (Option.some Jvm.ClassFile.FieldType.double), Jvm.Cond.code ({ cls := "com/example/ms2rank/ms2rank/matching/MassTolerance", name := "lowestMatch", desc := "(D)D" } : Jvm.MethodName) prog_15_method_5_code (3 : Nat) (Option.some Jvm.ClassFile.FieldType.double)]
set_option maxRecDepth 65536 in
theorem codes_eq : words1.filter isCode = codes1 := rfl
theorem w_codes : ∀ c ∈ words1.filter isCode, c.before args0 about1 = true := by
  rw [codes_eq]
  intro c hc
  simp only [codes1, List.mem_cons, List.not_mem_nil, or_false] at hc
  rcases hc with rfl | rfl | rfl | rfl | rfl | rfl | rfl
  · exact w_c0
  · exact w_c1
  · exact w_c2
  · exact w_c3
  · exact w_c4
  · exact w_c5
  · exact w_c6
set_option maxRecDepth 65536 in
theorem w_t1 : (words1.take 24).all (fun c => isCode c || c.before args0 about1) = true := by decide +kernel
set_option maxRecDepth 65536 in
theorem w_t2 : (words1.drop 24).all (fun c => isCode c || c.before args0 about1) = true := by decide +kernel
theorem w_tables : (allAtoms (Jvm.Cond.code x code maxLocals ret :: tables_1)).before args0 about1 = true := by
  rw [allAtoms_all]
  show words1.all (fun c => c.before args0 about1) = true
  refine all_split ?_ w_codes
  rw [← List.take_append_drop 24 words1, List.all_append, w_t1, w_t2]
  rfl
set_option maxRecDepth 65536 in
theorem w_case : (Jvm.Cond.and given_1 narrow_1).before args0 about1 = true := by decide +kernel
theorem w_applies : (headSpec (Jvm.Cond.code x code maxLocals ret :: tables_1) room_1).applies x e0.platform about1 = true :=
  (Spec.applies_iff w_frames).mpr ⟨w_running, w_runnable, w_alone, w_named, w_hears, w_ripe, w_room, w_tables⟩
theorem atStart : AtStart classFile x code maxLocals ret World_1 tables_1 room_1 Calls_1 rest_1 Pre_1 launch0 p0 e0 about1 theMethod args0 below0 :=
  ⟨lists_1, trivial, launch0.admits_env _ _ _, launch0.least_env, fairChoices_fair.cas, fairChoices_fair.clock, w_frames, w_args, w_heap, w_applies, trivial, trivial, w_case⟩
end start1
theorem witness_1 : WitnessClaimed_1 := ⟨start1.p0, start1.e0, start1.about1, start1.theMethod, start1.args0, start1.below0, start1.atStart⟩
end Jvm.Pilot.@@N@@
