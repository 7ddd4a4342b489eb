import JvmDerived
import JvmDerived.Pilot.@@N@@Statement
import JvmDerived.Pilot.@@N@@Code
set_option linter.unusedVariables false
set_option linter.unusedSimpArgs false
namespace Jvm.RoadKit
open Sem ClassFile Op Lib Jvm.Stand Jvm.Free Jvm.LawKit
section New
variable {p : Program} {l : Launch} {e : Env} {R : Room} {s : State} {m : MethodId} {args : Array Value} {below : List Frame} {meth : Method} {c : Code} {T : State} {locs : List Loc} {cells slots : Nat}
theorem retI (X : Stand p l e R s m args below meth c T locs cells slots) (hx : p.tables.exec = Jvm.exec) {pc : Nat} {Ls : Array Slot} {z : Int32} {rest : List Value} (hret : meth.sig.returnType = some .int) (hd : decode c.code pc = .ok (.ireturn, 1)) {fs : List Frame}
    (hl : ∀ (f : JFrame) (acts : List Action), f.method = m → f.locked = none → f.entered = [] → (doReturn e (T.setTop f) acts (some (.int z))).1 = T.setFrames fs) : Steps p.tables e below (T.setTop (mkF m pc Ls (.int z :: rest))) (T.setFrames fs) := by
  have hm' : T.vm.method? m = some meth := X.method'
  have hn : narrow .int (.int z) = .int z := rfl
  show Steps p.tables e below (T.setTop { method := m, pc := pc, locals := Ls, stack := _ :: rest, locked := none }) _
  jvm_step X.here [X.here.top, hx, hd, hm', hret, hn]
  first | (intro acts; rw [hl _ acts rfl rfl rfl]) | rw [hl _ _ rfl rfl rfl]
  exact Steps.refl _
end New
end Jvm.RoadKit
namespace Jvm.Pilot.@@N@@
open Jvm Jvm.ClassFile Sem Op Lib Jvm.Free Jvm.Stand Jvm.LawKit Jvm.RoadKit Bundle Jvm.Pilot.@@N@@.Jvm.D
/-- from the state T the run comes to a state of which K holds -/
def own_Go (p : Program) (e : Env) (below : List Frame) (K : State → Prop) (T : State) : Prop := ∃ t, Steps p.tables e below T t ∧ K t
theorem own_st {p : Program} {e : Env} {below : List Frame} {K : State → Prop} {T T' : State} (h : ∀ t, Steps p.tables e below T' t → Steps p.tables e below T t) (g : own_Go p e below K T') : own_Go p e below K T := by
  obtain ⟨t, a, b⟩ := g; exact ⟨t, h t a, b⟩
theorem own_tr {p : Program} {e : Env} {below : List Frame} {K : State → Prop} {T T' : State} (h : Steps p.tables e below T T') (g : own_Go p e below K T') : own_Go p e below K T := by
  obtain ⟨t, a, b⟩ := g; exact ⟨t, h.trans a, b⟩
theorem own_lrem {tb : Tables} [Ours tb] {e : Env} {below : List Frame} {T target : State} {m : MethodId} {c : Code} {g : JFrame} (h : At T m c below) (hx : tb.exec = Jvm.exec) (hg : g.method = m) {x y : Int64} {rest : List Value} (hd : decode c.code g.pc = .ok (.lrem, 1)) (hs : g.stack = .long y :: .long x :: rest) (hy : y ≠ 0)
    (hr : Steps tb e below (T.setTop { g with pc := g.pc + 1, stack := .long (x % y) :: rest }) target) : Steps tb e below (T.setTop g) target := by
  have q : x - x / y * y = x % y := lrem_mod x y
  exact XS.lrem h hx hg hd hs hy (by rw [q]; exact hr)
/-- a boolean's worth: 1 where P holds, 0 where it doesn't -/
def own_B (P : Prop) (r : Int32) : Prop := (r = 1 ∧ P) ∨ (r = 0 ∧ ¬ P)
theorem own_B.yes {P : Prop} {r : Int32} (e : r = 1) (h : P) : own_B P r := Or.inl ⟨e, h⟩
theorem own_B.no {P : Prop} {r : Int32} (e : r = 0) (h : ¬ P) : own_B P r := Or.inr ⟨e, h⟩
theorem own_B.same {P Q : Prop} {r v : Int32} (a : own_B P r) (b : own_B Q v) (h : P ↔ Q) : r = v := by
  rcases a with ⟨rfl, p⟩ | ⟨rfl, p⟩ <;> rcases b with ⟨rfl, q⟩ | ⟨rfl, q⟩
  · rfl
  · exact absurd (h.mp p) q
  · exact absurd (h.mpr q) p
  · rfl
theorem own_B.one {P : Prop} {r : Int32} (a : own_B P r) (h : P) : r = 1 := by
  rcases a with ⟨rfl, p⟩ | ⟨rfl, p⟩
  · rfl
  · exact absurd h p
theorem own_B.zero {P : Prop} {r : Int32} (a : own_B P r) (h : ¬ P) : r = 0 := by
  rcases a with ⟨rfl, p⟩ | ⟨rfl, p⟩
  · exact absurd p h
  · rfl
theorem own_B.ne0 {P : Prop} {r : Int32} (a : own_B P r) (h : P) : ¬ r = 0 := by rw [a.one h]; decide
theorem own_B.holds {P : Prop} {r : Int32} (a : own_B P r) (h : ¬ r = 0) : P := by
  rcases a with ⟨rfl, p⟩ | ⟨rfl, p⟩
  · exact p
  · exact absurd rfl h
theorem own_B.fails {P : Prop} {r : Int32} (a : own_B P r) (h : r = 0) : ¬ P := by
  rcases a with ⟨rfl, p⟩ | ⟨rfl, p⟩
  · exact absurd h (by decide)
  · exact p
theorem own_atJ (ws : List Int64) (i : Nat) : (ws.map Value.long).getD i (.long (0 : Int64)) = .long (ws.getD i 0) := by
  simp only [List.getD, List.getElem?_map]; cases ws[i]? <;> rfl
theorem own_atI (ws : List Int32) (i : Nat) : (ws.map Value.int).getD i (.int (0 : Int32)) = .int (ws.getD i 0) := by
  simp only [List.getD, List.getElem?_map]; cases ws[i]? <;> rfl
theorem own_selp {Z s : State} {a0 args : Array Value} {y : MethodName} {n : Nat} (hZ : Z.Warmed39 s.vm) (wi : (Jvm.Cond.instantiable y.cls n).before a0 Z = true) (wm : (Jvm.Cond.instanceMethod y).before a0 Z = true) (wp : (Jvm.Cond.privateMethod y).before a0 Z = true) (hy : y.cls ≠ "java/lang/invoke/MethodHandle" ∧ y.cls ≠ "java/lang/invoke/VarHandle") : (Jvm.Cond.selects y.cls y y).before args s = true := by
  have w1 : (Jvm.Cond.instantiable y.cls n).before args s = true := mvT hZ wi
  obtain ⟨c, k, h1, h2, h3, h4, -⟩ := Cond.instantiable_spec w1
  have h5 : k.isInterface = false := by cases hq : k.isInterface <;> simp [hq] at h4 ⊢
  exact selects_self_of_private h1 h2 h5 (Cond.privateMethod_at (mvP hZ wp (args := args))) (mvT hZ wm) hy
theorem own_hat {T : State} {h : Heap} {a : Addr} {c : Cell} (e : T.heap = h) (q : h[a]? = some c) : T.heap[a]? = some c := by rw [e]; exact q
theorem own_nn (x : Int32) : nar .byte (nar .byte x) = nar .byte x := by
  refine Int32.toInt_inj.mp ?_
  have a := c_i2b x
  have b := c_i2b x.toInt8.toInt32
  show x.toInt8.toInt32.toInt8.toInt32.toInt = x.toInt8.toInt32.toInt
  omega
theorem own_nb (x : Int32) : nar .byte x.toInt8.toInt32 = x.toInt8.toInt32 := own_nn x
theorem own_fit {x : Int32} (h : nar .byte x = x) : fits .byte (.int x) = true := by rw [← h]; exact fits_nar_byte x
theorem own_cl {j : Int32} {i : Nat} (h : j.toInt = (i : Int)) : j.toNatClampNeg = i := by rw [Int32.toNatClampNeg, h]; rfl
theorem own_lt {a b : Int32} (h : a.toInt < b.toInt) : a < b := Int32.lt_iff_toInt_lt.mpr h
theorem own_nlt {a b : Int32} (h : b.toInt ≤ a.toInt) : ¬ a < b := fun q => absurd (Int32.lt_iff_toInt_lt.mp q) (by omega)
theorem own_ltI {a b : Int32} (h : a < b) : a.toInt < b.toInt := Int32.lt_iff_toInt_lt.mp h
theorem own_nltI {a b : Int32} (h : ¬ a < b) : b.toInt ≤ a.toInt := by have := mt Int32.lt_iff_toInt_lt.mpr h; omega
theorem own_neI {a b : Int32} (h : ¬ a = b) : ¬ a.toInt = b.toInt := fun q => h (Int32.toInt_inj.mp q)
theorem own_ltL {a b : Int64} (h : a < b) : a.toInt < b.toInt := Int64.lt_iff_toInt_lt.mp h
theorem own_nltL {a b : Int64} (h : ¬ a < b) : b.toInt ≤ a.toInt := by have := mt Int64.lt_iff_toInt_lt.mpr h; omega
theorem own_neL {a b : Int64} (h : ¬ a = b) : ¬ a.toInt = b.toInt := fun q => h (Int64.toInt_inj.mp q)
def own_acc (xs : List Int32) : Nat → Int32 → Int32 → Nat → Int32
  | 0, v, sh, i => (v ||| (((xs.getD i 0) &&& (127 : Int32)) <<< (sh &&& 31)))
  | k + 1, v, sh, i => own_acc xs k (v ||| (((xs.getD i 0) &&& (127 : Int32)) <<< (sh &&& 31))) (sh + (7 : Int32)) (i + 1)
theorem own_nx {xs : List Int32} {xe ij : Nat} {ip vv sh : Int32} (h : ip.toInt = (ij : Int)) (hj : ij < xe) : own_acc xs (xe - ij) vv sh ij = own_acc xs (xe - (ij + 1)) (vv ||| (((xs.getD (ip).toNatClampNeg 0) &&& (127 : Int32)) <<< (sh &&& 31))) (sh + (7 : Int32)) (ij + 1) := by
  rw [own_cl h]
  obtain ⟨k, hk⟩ : ∃ k, xe - ij = k + 1 := ⟨xe - ij - 1, by omega⟩
  have e : xe - (ij + 1) = k := by omega
  rw [hk, e]
  rfl
theorem own_last {xs : List Int32} {ij : Nat} {ip vv sh : Int32} (h : ip.toInt = (ij : Int)) : (vv ||| (((xs.getD (ip).toNatClampNeg 0) &&& (127 : Int32)) <<< (sh &&& 31))) = own_acc xs (ij - ij) vv sh ij := by
  rw [own_cl h, Nat.sub_self]
  rfl
theorem own_p1 {p : Int32} {i : Nat} {n : Int32} (h : p.toInt = (i : Int)) (hn : (i : Int) < n.toInt) : (p + (1 : Int32)).toInt = ((i + 1 : Nat) : Int) := by
  have a := c_iadd p 1
  have t1 : (1 : Int32).toInt = 1 := by decide
  have r := rng32 (p + 1)
  have r2 := rng32 n
  rw [t1] at a
  omega
theorem own_is {xs : List Int32} {i e : Nat} {p : Int32} (h : p.toInt = (i : Int)) (hie : i ≤ e) (hng : ∀ j, i ≤ j → j < e → xs.getD j 0 < 0) (hn : ¬ xs.getD (p).toNatClampNeg 0 < 0) : i = e := by
  rw [own_cl h] at hn
  rcases Nat.lt_or_ge i e with q | q
  · exact absurd (hng i (Nat.le_refl _) q) hn
  · omega
theorem own_isnt {xs : List Int32} {i e : Nat} {p : Int32} (h : p.toInt = (i : Int)) (hie : i ≤ e) (hnd : ¬ xs.getD e 0 < 0) (hn : xs.getD (p).toNatClampNeg 0 < 0) : i < e := by
  rw [own_cl h] at hn
  rcases Nat.lt_or_ge i e with q | q
  · exact q
  · have : i = e := by omega
    rw [this] at hn
    exact absurd hn hnd
def own_tm (xs : List Int32) (i e : Int32) (w : Int64) : Int64 := if e < i then 0 else ((xs.getD (i).toNatClampNeg 0) &&& (127 : Int32)).toInt64 * w
def own_ex (xs : List Int32) (i e : Int32) : Int32 := (((((own_tm xs i e 1) + (own_tm xs (i + (1 : Int32)) e 128)) + (own_tm xs (i + (2 : Int32)) e 16384)) + (own_tm xs (i + (3 : Int32)) e 2097152)) + (own_tm xs (i + (4 : Int32)) e 268435456)).toInt32
theorem own_pos (x : Int32) : ¬ ((x &&& (127 : Int32)).toInt8.toInt32) < 0 := by
  refine own_nlt ?_
  have e : (x &&& (127 : Int32)).toInt = x.toInt % 128 := c_mask x 127 7 (by decide) (by decide)
  have b := c_i2b (x &&& 127)
  show (0 : Int) ≤ _
  omega
/-- the first place from i on, and before N, that isn't negative -/
theorem own_first {xs : List Int32} : ∀ (k i : Nat), ¬ xs.getD (i + k) 0 < 0 → ∃ e, i ≤ e ∧ e ≤ i + k ∧ (∀ j, i ≤ j → j < e → xs.getD j 0 < 0) ∧ ¬ xs.getD e 0 < 0
  | 0, i, h => ⟨i, Nat.le_refl _, Nat.le_refl _, fun j a b => by omega, h⟩
  | k + 1, i, h => by
    by_cases q : xs.getD i 0 < 0
    · obtain ⟨e, h1, h2, h3, h4⟩ := own_first k (i + 1) (by rw [show i + 1 + k = i + (k + 1) from by omega]; exact h)
      refine ⟨e, by omega, by omega, fun j a b => ?_, h4⟩
      by_cases z : j = i
      · rw [z]; exact q
      · exact h3 j (by omega) b
    · exact ⟨i, Nat.le_refl _, by omega, fun j a b => by omega, q⟩
theorem own_pk {p : Int32} {i : Nat} (h : p.toInt = (i : Int)) (hi : i < 100) (c : Int32) (hc : 0 ≤ c.toInt ∧ c.toInt < 100) : (p + c).toInt = (i : Int) + c.toInt := by
  have a := c_iadd p c
  have r := rng32 (p + c)
  omega
theorem own_tm1 {xs : List Int32} {i e : Int32} {w : Int64} (h : i.toInt ≤ e.toInt) : own_tm xs i e w = ((xs.getD (i).toNatClampNeg 0) &&& (127 : Int32)).toInt64 * w := if_neg (own_nlt h)
theorem own_tm0 {xs : List Int32} {i e : Int32} {w : Int64} (h : e.toInt < i.toInt) : own_tm xs i e w = 0 := if_pos (own_lt h)
theorem own_127 (x : Int32) : 0 ≤ (x &&& (127 : Int32)).toInt ∧ (x &&& (127 : Int32)).toInt ≤ 127 := c_and x 127 (by decide)
theorem own_t (x : Int32) (w : Int64) (hw : 0 ≤ w.toInt ∧ w.toInt ≤ 268435456) : ((x &&& (127 : Int32)).toInt64 * w).toInt = (x &&& (127 : Int32)).toInt * w.toInt := by
  have m := c_lmul (x &&& (127 : Int32)).toInt64 w
  have c := c_i2l (x &&& (127 : Int32))
  have r := rng64 ((x &&& (127 : Int32)).toInt64 * w)
  have b := own_127 x
  have q := mc b.1 b.2 hw.1 hw.2
  rw [c] at m
  omega
def own_sh (x : Int32) (k : Int32) : Int32 := (x &&& (127 : Int32)) <<< (k &&& 31)
theorem own_s0 (x : Int32) : (own_sh x 0).toInt = (x &&& (127 : Int32)).toInt := by
  have h : ((own_sh x 0).toInt - (x &&& (127 : Int32)).toInt * 1) % 4294967296 = 0 := c_ishl (x &&& 127) 0 0 (by decide)
  have b := own_127 x
  have r := rng32 (own_sh x 0)
  omega
theorem own_s1 (x : Int32) : (own_sh x 7).toInt = (x &&& (127 : Int32)).toInt * 128 := by
  have h : ((own_sh x 7).toInt - (x &&& (127 : Int32)).toInt * 128) % 4294967296 = 0 := c_ishl (x &&& 127) 7 7 (by decide)
  have b := own_127 x
  have r := rng32 (own_sh x 7)
  omega
theorem own_s2 (x : Int32) : (own_sh x 14).toInt = (x &&& (127 : Int32)).toInt * 16384 := by
  have h : ((own_sh x 14).toInt - (x &&& (127 : Int32)).toInt * 16384) % 4294967296 = 0 := c_ishl (x &&& 127) 14 14 (by decide)
  have b := own_127 x
  have r := rng32 (own_sh x 14)
  omega
theorem own_s3 (x : Int32) : (own_sh x 21).toInt = (x &&& (127 : Int32)).toInt * 2097152 := by
  have h : ((own_sh x 21).toInt - (x &&& (127 : Int32)).toInt * 2097152) % 4294967296 = 0 := c_ishl (x &&& 127) 21 21 (by decide)
  have b := own_127 x
  have r := rng32 (own_sh x 21)
  omega
theorem own_s4 (x : Int32) : ((own_sh x 28).toInt - (x &&& (127 : Int32)).toInt * 268435456) % 4294967296 = 0 ∧ (own_sh x 28).toInt % 268435456 = 0 := by
  have h : ((own_sh x 28).toInt - (x &&& (127 : Int32)).toInt * 268435456) % 4294967296 = 0 := c_ishl (x &&& 127) 28 28 (by decide)
  refine ⟨h, ?_⟩
  omega
theorem own_v0 (a : Int32) : (((0 : Int32) ||| own_sh a 0)).toInt = (a &&& (127 : Int32)).toInt := by
  rw [Int32.zero_or, own_s0]
theorem own_v1 (a b : Int32) : ((((0 : Int32) ||| own_sh a 0)) ||| own_sh b 7).toInt = (a &&& (127 : Int32)).toInt + (b &&& (127 : Int32)).toInt * 128 := by
  have v := own_v0 a
  have s := own_s1 b
  have ba := own_127 a
  have bb := own_127 b
  have o := c_or' ((0 : Int32) ||| own_sh a 0) (own_sh b 7) 7 (by decide) 128 (by decide) (by omega) (by omega) (by omega)
  have r := rng32 ((((0 : Int32) ||| own_sh a 0)) ||| own_sh b 7)
  omega
theorem own_v2 (a b c : Int32) : (((((0 : Int32) ||| own_sh a 0)) ||| own_sh b 7) ||| own_sh c 14).toInt = (a &&& (127 : Int32)).toInt + (b &&& (127 : Int32)).toInt * 128 + (c &&& (127 : Int32)).toInt * 16384 := by
  have v := own_v1 a b
  have s := own_s2 c
  have ba := own_127 a
  have bb := own_127 b
  have bc := own_127 c
  have o := c_or' ((((0 : Int32) ||| own_sh a 0)) ||| own_sh b 7) (own_sh c 14) 14 (by decide) 16384 (by decide) (by omega) (by omega) (by omega)
  have r := rng32 (((((0 : Int32) ||| own_sh a 0)) ||| own_sh b 7) ||| own_sh c 14)
  omega
theorem own_v3 (a b c d : Int32) : ((((((0 : Int32) ||| own_sh a 0)) ||| own_sh b 7) ||| own_sh c 14) ||| own_sh d 21).toInt = (a &&& (127 : Int32)).toInt + (b &&& (127 : Int32)).toInt * 128 + (c &&& (127 : Int32)).toInt * 16384 + (d &&& (127 : Int32)).toInt * 2097152 := by
  have v := own_v2 a b c
  have s := own_s3 d
  have ba := own_127 a
  have bb := own_127 b
  have bc := own_127 c
  have bd := own_127 d
  have o := c_or' (((((0 : Int32) ||| own_sh a 0)) ||| own_sh b 7) ||| own_sh c 14) (own_sh d 21) 21 (by decide) 2097152 (by decide) (by omega) (by omega) (by omega)
  have r := rng32 ((((((0 : Int32) ||| own_sh a 0)) ||| own_sh b 7) ||| own_sh c 14) ||| own_sh d 21)
  omega
theorem own_v4 (a b c d e : Int32) : ((((((((0 : Int32) ||| own_sh a 0)) ||| own_sh b 7) ||| own_sh c 14) ||| own_sh d 21) ||| own_sh e 28).toInt - ((a &&& (127 : Int32)).toInt + (b &&& (127 : Int32)).toInt * 128 + (c &&& (127 : Int32)).toInt * 16384 + (d &&& (127 : Int32)).toInt * 2097152 + (e &&& (127 : Int32)).toInt * 268435456)) % 4294967296 = 0 := by
  have v := own_v3 a b c d
  have s := own_s4 e
  have ba := own_127 a
  have bb := own_127 b
  have bc := own_127 c
  have bd := own_127 d
  have o := c_or' ((((((0 : Int32) ||| own_sh a 0)) ||| own_sh b 7) ||| own_sh c 14) ||| own_sh d 21) (own_sh e 28) 28 (by decide) 268435456 (by decide) s.2 (by omega) (by omega)
  omega
theorem own_add {a b : Int64} {x y : Int} (ha : a.toInt = x) (hb : b.toInt = y) (hx : 0 ≤ x ∧ x ≤ 400000000000) (hy : 0 ≤ y ∧ y ≤ 400000000000) : (a + b).toInt = x + y := by
  have h := c_ladd a b
  have r := rng64 (a + b)
  omega
theorem own_sum5 {t0 t1 t2 t3 t4 : Int64} {y0 y1 y2 y3 y4 : Int} (T0 : t0.toInt = y0) (T1 : t1.toInt = y1) (T2 : t2.toInt = y2) (T3 : t3.toInt = y3) (T4 : t4.toInt = y4) (B0 : 0 ≤ y0 ∧ y0 ≤ 40000000000) (B1 : 0 ≤ y1 ∧ y1 ≤ 40000000000) (B2 : 0 ≤ y2 ∧ y2 ≤ 40000000000) (B3 : 0 ≤ y3 ∧ y3 ≤ 40000000000) (B4 : 0 ≤ y4 ∧ y4 ≤ 40000000000) : ((((t0 + t1) + t2) + t3) + t4).toInt = y0 + y1 + y2 + y3 + y4 := by
  have s1 := own_add T0 T1 (by omega) (by omega)
  have s2 := own_add s1 T2 (by omega) (by omega)
  have s3 := own_add s2 T3 (by omega) (by omega)
  exact own_add s3 T4 (by omega) (by omega)
theorem own_fin {S : Int64} {A : Int32} {X : Int} (hS : S.toInt = X) (hA : (A.toInt - X) % 4294967296 = 0) : A = S.toInt32 := by
  refine Int32.toInt_inj.mp ?_
  have h := c_l2i S
  have r := rng32 A
  have r2 := rng32 S.toInt32
  omega
theorem own_y (x : Int32) (w : Int) (hw : 0 ≤ w ∧ w ≤ 268435456) : 0 ≤ (x &&& (127 : Int32)).toInt * w ∧ (x &&& (127 : Int32)).toInt * w ≤ 40000000000 := by
  have b := own_127 x
  have q := mc b.1 b.2 hw.1 hw.2
  omega
theorem own_z0 : (0 : Int) ≤ 0 ∧ (0 : Int) ≤ 40000000000 := by omega
theorem own_one {xs : List Int32} {p q : Int32} {i : Nat} {w : Int64} {W : Int} (hp : p.toInt = (i : Int)) (h : p.toInt ≤ q.toInt) (hw : w.toInt = W) (hW : 0 ≤ W ∧ W ≤ 268435456) : (own_tm xs p q w).toInt = ((xs.getD i 0) &&& (127 : Int32)).toInt * W := by
  rw [own_tm1 h, own_t _ _ (by rw [hw]; exact hW), own_cl hp, hw]
theorem own_nil {xs : List Int32} {p q : Int32} {w : Int64} (h : q.toInt < p.toInt) : (own_tm xs p q w).toInt = 0 := by
  rw [own_tm0 h]
  decide
theorem own_ends {xs : List Int32} {p q : Int32} {i e : Nat} (hp : p.toInt = (i : Int)) (hq : q.toInt = (e : Int)) (hi : i < 50) (h1 : i ≤ e) (h2 : e ≤ i + 4) : own_acc xs (e - i) 0 0 i = own_ex xs p q := by
  have p1 : (p + (1 : Int32)).toInt = ((i + 1 : Nat) : Int) := by rw [own_pk hp (by omega) 1 (by decide)]; rfl
  have p2 : (p + (2 : Int32)).toInt = ((i + 2 : Nat) : Int) := by rw [own_pk hp (by omega) 2 (by decide)]; rfl
  have p3 : (p + (3 : Int32)).toInt = ((i + 3 : Nat) : Int) := by rw [own_pk hp (by omega) 3 (by decide)]; rfl
  have p4 : (p + (4 : Int32)).toInt = ((i + 4 : Nat) : Int) := by rw [own_pk hp (by omega) 4 (by decide)]; rfl
  have T0 := own_one (xs := xs) (w := 1) (W := 1) hp (by omega : p.toInt ≤ q.toInt) (by decide) (by omega)
  have Y := own_y (xs.getD i 0) 1 (by omega)
  have hk : e = i ∨ e = i + 1 ∨ e = i + 2 ∨ e = i + 3 ∨ e = i + 4 := by omega
  rcases hk with k | k | k | k | k
  · rw [show e - i = 0 from by omega]
    refine own_fin (own_sum5 T0 (own_nil (by omega)) (own_nil (by omega)) (own_nil (by omega)) (own_nil (by omega)) Y own_z0 own_z0 own_z0 own_z0) ?_
    have V : (own_acc xs 0 0 0 i).toInt = _ := own_v0 (xs.getD i 0)
    rw [V]
    generalize ((xs.getD i 0) &&& (127 : Int32)).toInt = a at *
    omega
  · rw [show e - i = 1 from by omega]
    refine own_fin (own_sum5 T0 (own_one p1 (by omega) (W := 128) (by decide) (by omega)) (own_nil (by omega)) (own_nil (by omega)) (own_nil (by omega)) Y (own_y _ 128 (by omega)) own_z0 own_z0 own_z0) ?_
    have V : (own_acc xs 1 0 0 i).toInt = _ := own_v1 (xs.getD i 0) (xs.getD (i + 1) 0)
    rw [V]
    generalize ((xs.getD i 0) &&& (127 : Int32)).toInt = a at *
    generalize ((xs.getD (i + 1) 0) &&& (127 : Int32)).toInt = b at *
    omega
  · rw [show e - i = 2 from by omega]
    refine own_fin (own_sum5 T0 (own_one p1 (by omega) (W := 128) (by decide) (by omega)) (own_one p2 (by omega) (W := 16384) (by decide) (by omega)) (own_nil (by omega)) (own_nil (by omega)) Y (own_y _ 128 (by omega)) (own_y _ 16384 (by omega)) own_z0 own_z0) ?_
    have V : (own_acc xs 2 0 0 i).toInt = _ := own_v2 (xs.getD i 0) (xs.getD (i + 1) 0) (xs.getD (i + 2) 0)
    rw [V]
    generalize ((xs.getD i 0) &&& (127 : Int32)).toInt = a at *
    generalize ((xs.getD (i + 1) 0) &&& (127 : Int32)).toInt = b at *
    generalize ((xs.getD (i + 2) 0) &&& (127 : Int32)).toInt = c at *
    omega
  · rw [show e - i = 3 from by omega]
    refine own_fin (own_sum5 T0 (own_one p1 (by omega) (W := 128) (by decide) (by omega)) (own_one p2 (by omega) (W := 16384) (by decide) (by omega)) (own_one p3 (by omega) (W := 2097152) (by decide) (by omega)) (own_nil (by omega)) Y (own_y _ 128 (by omega)) (own_y _ 16384 (by omega)) (own_y _ 2097152 (by omega)) own_z0) ?_
    have V : (own_acc xs 3 0 0 i).toInt = _ := own_v3 (xs.getD i 0) (xs.getD (i + 1) 0) (xs.getD (i + 2) 0) (xs.getD (i + 3) 0)
    rw [V]
    generalize ((xs.getD i 0) &&& (127 : Int32)).toInt = a at *
    generalize ((xs.getD (i + 1) 0) &&& (127 : Int32)).toInt = b at *
    generalize ((xs.getD (i + 2) 0) &&& (127 : Int32)).toInt = c at *
    generalize ((xs.getD (i + 3) 0) &&& (127 : Int32)).toInt = d at *
    omega
  · rw [show e - i = 4 from by omega]
    refine own_fin (own_sum5 T0 (own_one p1 (by omega) (W := 128) (by decide) (by omega)) (own_one p2 (by omega) (W := 16384) (by decide) (by omega)) (own_one p3 (by omega) (W := 2097152) (by decide) (by omega)) (own_one p4 (by omega) (W := 268435456) (by decide) (by omega)) Y (own_y _ 128 (by omega)) (own_y _ 16384 (by omega)) (own_y _ 2097152 (by omega)) (own_y _ 268435456 (by omega))) ?_
    have V := own_v4 (xs.getD i 0) (xs.getD (i + 1) 0) (xs.getD (i + 2) 0) (xs.getD (i + 3) 0) (xs.getD (i + 4) 0)
    have V' : own_acc xs 4 0 0 i = ((((((0 : Int32) ||| own_sh (xs.getD i 0) 0)) ||| own_sh (xs.getD (i + 1) 0) 7) ||| own_sh (xs.getD (i + 2) 0) 14) ||| own_sh (xs.getD (i + 3) 0) 21) ||| own_sh (xs.getD (i + 4) 0) 28 := rfl
    rw [← V'] at V
    rw [Int.mul_one]
    exact V
theorem d1_0 : decode method_2_code 0 = .ok (.aload_n 0, 1) := by decide +kernel
theorem d1_1 : decode method_2_code 1 = .ok (.iload_n 1, 1) := by decide +kernel
theorem d1_2 : decode method_2_code 2 = .ok (.baload, 1) := by decide +kernel
theorem d1_3 : decode method_2_code 3 = .ok (.ifCond .lt 5, 3) := by decide +kernel
theorem d1_6 : decode method_2_code 6 = .ok (.iload_n 1, 1) := by decide +kernel
theorem d1_7 : decode method_2_code 7 = .ok (.ireturn, 1) := by decide +kernel
theorem d1_8 : decode method_2_code 8 = .ok (.aload_n 0, 1) := by decide +kernel
theorem d1_9 : decode method_2_code 9 = .ok (.iload_n 1, 1) := by decide +kernel
theorem d1_10 : decode method_2_code 10 = .ok (.iconst 1, 1) := by decide +kernel
theorem d1_11 : decode method_2_code 11 = .ok (.iadd, 1) := by decide +kernel
theorem d1_12 : decode method_2_code 12 = .ok (.baload, 1) := by decide +kernel
theorem d1_13 : decode method_2_code 13 = .ok (.ifCond .lt 7, 3) := by decide +kernel
theorem d1_16 : decode method_2_code 16 = .ok (.iload_n 1, 1) := by decide +kernel
theorem d1_17 : decode method_2_code 17 = .ok (.iconst 1, 1) := by decide +kernel
theorem d1_18 : decode method_2_code 18 = .ok (.iadd, 1) := by decide +kernel
theorem d1_19 : decode method_2_code 19 = .ok (.ireturn, 1) := by decide +kernel
theorem d1_20 : decode method_2_code 20 = .ok (.aload_n 0, 1) := by decide +kernel
theorem d1_21 : decode method_2_code 21 = .ok (.iload_n 1, 1) := by decide +kernel
theorem d1_22 : decode method_2_code 22 = .ok (.iconst 2, 1) := by decide +kernel
theorem d1_23 : decode method_2_code 23 = .ok (.iadd, 1) := by decide +kernel
theorem d1_24 : decode method_2_code 24 = .ok (.baload, 1) := by decide +kernel
theorem d1_25 : decode method_2_code 25 = .ok (.ifCond .lt 7, 3) := by decide +kernel
theorem d1_28 : decode method_2_code 28 = .ok (.iload_n 1, 1) := by decide +kernel
theorem d1_29 : decode method_2_code 29 = .ok (.iconst 2, 1) := by decide +kernel
theorem d1_30 : decode method_2_code 30 = .ok (.iadd, 1) := by decide +kernel
theorem d1_31 : decode method_2_code 31 = .ok (.ireturn, 1) := by decide +kernel
theorem d1_32 : decode method_2_code 32 = .ok (.aload_n 0, 1) := by decide +kernel
theorem d1_33 : decode method_2_code 33 = .ok (.iload_n 1, 1) := by decide +kernel
theorem d1_34 : decode method_2_code 34 = .ok (.iconst 3, 1) := by decide +kernel
theorem d1_35 : decode method_2_code 35 = .ok (.iadd, 1) := by decide +kernel
theorem d1_36 : decode method_2_code 36 = .ok (.baload, 1) := by decide +kernel
theorem d1_37 : decode method_2_code 37 = .ok (.ifCond .lt 7, 3) := by decide +kernel
theorem d1_40 : decode method_2_code 40 = .ok (.iload_n 1, 1) := by decide +kernel
theorem d1_41 : decode method_2_code 41 = .ok (.iconst 3, 1) := by decide +kernel
theorem d1_42 : decode method_2_code 42 = .ok (.iadd, 1) := by decide +kernel
theorem d1_43 : decode method_2_code 43 = .ok (.ireturn, 1) := by decide +kernel
theorem d1_44 : decode method_2_code 44 = .ok (.iload_n 1, 1) := by decide +kernel
theorem d1_45 : decode method_2_code 45 = .ok (.iconst 4, 1) := by decide +kernel
theorem d1_46 : decode method_2_code 46 = .ok (.iadd, 1) := by decide +kernel
theorem d1_47 : decode method_2_code 47 = .ok (.ireturn, 1) := by decide +kernel
theorem pn_1 : plainName "com/example/ms2rank/ms2rank/candidate/UnpackerNumberPinLaw" = true := by first | (simp [plainName, overriddenIn]; done) | decide +kernel
theorem ef_1 (m : MethodId) (x0 : Addr) (x1 : Int32) : entryFrame m #[(.ref x0), (.int x1)] 2 = mkF m 0 #[.val (.ref x0), .val (.int x1)] [] := by first | (simp [entryFrame, mkF, argsToLocals, Value.category]; done) | rfl
def Q1 (Z : State) (a1 : Addr) (p2 : Int32) (xk : ClassId) (xn : Int32) (xs : List Int32) (xi : Nat) (xe : Nat) (h0 : Heap) (n0 : Nat) (v : Option Value) (h : Heap) (L : List Loc) : Prop := ∃ (r : Int32), v = some (.int r) ∧ (r.toInt = (xe : Int)) ∧ Fr n0 L ∧ h = h0
set_option maxRecDepth 65536 in
set_option maxHeartbeats 40000000 in
theorem rm1 (l : Launch) (Z : State) (a0 : Array Value) (hw : ∀ d ∈ tables_1, d.before a0 Z = true) (ws : List Jvm.Cond) (a1 : Addr) (p2 : Int32) (xk : ClassId) (xn : Int32) (xs : List Int32) (xi : Nat) (xe : Nat) (h0 : Heap) (n0 : Nat) (Z0 : n0 ≤ h0.size) (P0 : Arv Z h0 a1 xk .byte xn (xs.map Value.int) (.int (0 : Int32))) (hxi : p2.toInt = (xi : Int)) (hie : xi ≤ xe) (hen : (xe : Int) < xn.toInt) (hng : ∀ j, xi ≤ j → j < xe → xs.getD j 0 < 0) (hnd : ¬ xs.getD xe 0 < 0) (h4 : xe ≤ xi + 4) (h50 : xi < 50) :
    MetFree l (⟨"com/example/ms2rank/ms2rank/candidate/UnpackerNumberPinLaw", "end", "([BI)I"⟩ : MethodName) (head1 (Jvm.Cond.code (⟨"com/example/ms2rank/ms2rank/candidate/UnpackerNumberPinLaw", "end", "([BI)I"⟩ : MethodName) method_2_code 2 (some .int) :: ws) ({ frames := 0, cells := 0, slots := 0, locals := 0 } : Room)) (fun a U => a = #[(.ref a1), (.int p2)] ∧ Z.Warmed39 U.vm ∧ U.heap = h0) (fun _ _ _ _ _ => True) (fun _ U o U' => ∃ v L, o = .returned v ∧ Q1 Z a1 p2 xk xn xs xi xe h0 n0 v U'.heap L ∧ FrameEnd U o U' L ({ frames := 0, cells := 0, slots := 0, locals := 0 } : Room).cells ({ frames := 0, cells := 0, slots := 0, locals := 0 } : Room).slots) := by
  refine MetFree.of_bodySF (plainFor_of_name pn_1) hisR ?_
  intro p e s m args below meth c s₁ Bd hml0 hP hK
  obtain ⟨rfl, hZ, hh⟩ := hP
  have hx := Bd.exec
  have hby := Bd.bytes
  have hml : c.maxLocals = 2 := hml0
  have hown : s.vm.findClass "com/example/ms2rank/ms2rank/candidate/UnpackerNumberPinLaw" = some m.cls := findClass_of_methodNamed Bd.named
  have hnm := (name_of_methodNamed Bd.named Bd.method).1
  have X0 : Stand p l e ({ frames := 0, cells := 0, slots := 0, locals := 0 } : Room) s m #[(.ref a1), (.int p2)] below meth c s₁ [] 0 0 := Stand.of_body Bd
  have e0 : s₁.heap = h0 := by rw [← hh, Bd.state]; rfl
  have N0 := Fr.nil n0
  suffices G0 : ∀ K : State → Prop, (∀ (n : State) (v : Option Value) (L : List Loc), n.status = .running → Ended n below (.returned v) → Q1 Z a1 p2 xk xn xs xi xe h0 n0 v n.heap L → FrameEnd s (.returned v) n L ({ frames := 0, cells := 0, slots := 0, locals := 0 } : Room).cells ({ frames := 0, cells := 0, slots := 0, locals := 0 } : Room).slots → K n) → own_Go p e below K (s₁.setTop (mkF m 0 #[.val (.ref a1), .val (.int p2)] [])) by
    obtain ⟨t, st, o, a, b, v, L, e1, q, fe⟩ := G0 (fun n => ∃ o, n.status = .running ∧ Ended n below o ∧ ∃ v L, o = .returned v ∧ Q1 Z a1 p2 xk xn xs xi xe h0 n0 v n.heap L ∧ FrameEnd s o n L ({ frames := 0, cells := 0, slots := 0, locals := 0 } : Room).cells ({ frames := 0, cells := 0, slots := 0, locals := 0 } : Room).slots) (fun n v L a b q f => ⟨_, a, b, v, L, rfl, q, f⟩)
    exact ⟨t, o, castTop (ef_1 m a1 p2) st, a, b, v, L, e1, q, fe⟩
  intro K fin
  show own_Go p e below K (s₁.setTop (mkF m 0 #[.val (.ref a1), .val (.int p2)] []))
  have q0 := hxi
  have q1 := (by have := own_pk hxi (by omega) 1 (by decide); have t : (1 : Int32).toInt = 1 := (by decide); rw [t] at this; omega : (p2 + (1 : Int32)).toInt = ((xi + 1 : Nat) : Int))
  have q2 := (by have := own_pk hxi (by omega) 2 (by decide); have t : (2 : Int32).toInt = 2 := (by decide); rw [t] at this; omega : (p2 + (2 : Int32)).toInt = ((xi + 2 : Nat) : Int))
  have q3 := (by have := own_pk hxi (by omega) 3 (by decide); have t : (3 : Int32).toInt = 3 := (by decide); rw [t] at this; omega : (p2 + (3 : Int32)).toInt = ((xi + 3 : Nat) : Int))
  have q4 := (by have := own_pk hxi (by omega) 4 (by decide); have t : (4 : Int32).toInt = 4 := (by decide); rw [t] at this; omega : (p2 + (4 : Int32)).toInt = ((xi + 4 : Nat) : Int))
  refine own_st (fun t k => XS.aloadN X0.here hx rfl (hb hby d1_0) rfl rfl k) ?_
  show own_Go p e below K (s₁.setTop (mkF m 1 #[.val (.ref a1), .val (.int p2)] [(.ref a1)]))
  refine own_st (fun t k => XS.iloadN X0.here hx rfl (hb hby d1_1) rfl k) ?_
  show own_Go p e below K (s₁.setTop (mkF m 2 #[.val (.ref a1), .val (.int p2)] [(.int p2), (.ref a1)]))
  obtain ⟨cl1, Ar1, qa1, Sa1, Ma1, Ha1, Ga1⟩ := id P0
  have hin1 : ¬ (p2 < 0 ∨ cl1.slots.size ≤ (p2).toNatClampNeg) := inb_of Sa1 ⟨own_nlt (by rw [q0]; show (0 : Int) ≤ _; omega), own_lt (by rw [q0]; omega)⟩
  refine own_st (X0.baloadBytes hx (j := p2) (v := (.int (xs.getD (p2).toNatClampNeg 0))) (own_hat e0 Ar1.1) (State.isArrayOf_alike hZ.alike Ar1.2.1) Ar1.2.2 hin1 (Has.at Ha1 hin1 (own_atI xs _)) (g := (mkF m 2 #[.val (.ref a1), .val (.int p2)] [(.int p2), (.ref a1)])) rfl rfl (hb hby d1_2)) ?_
  show own_Go p e below K (s₁.setTop (mkF m 3 #[.val (.ref a1), .val (.int p2)] [(.int (xs.getD (p2).toNatClampNeg 0))]))
  by_cases hc3 : (xs.getD (p2).toNatClampNeg 0) < (0 : Int32)
  · refine own_st (fun t k => XS.ifYes X0.here hx rfl (pc0 := 3) (pc' := 8) rfl (hb hby d1_3) rfl ((if0 _ _).trans (tlt hc3).1) (by decide) (by decide) k) ?_
    show own_Go p e below K (s₁.setTop (mkF m 8 #[.val (.ref a1), .val (.int p2)] []))
    have b1 : xi < xe := own_isnt q0 hie hnd hc3
    refine own_st (fun t k => XS.aloadN X0.here hx rfl (hb hby d1_8) rfl rfl k) ?_
    show own_Go p e below K (s₁.setTop (mkF m 9 #[.val (.ref a1), .val (.int p2)] [(.ref a1)]))
    refine own_st (fun t k => XS.iloadN X0.here hx rfl (hb hby d1_9) rfl k) ?_
    show own_Go p e below K (s₁.setTop (mkF m 10 #[.val (.ref a1), .val (.int p2)] [(.int p2), (.ref a1)]))
    refine own_st (fun t k => XS.iconst X0.here hx rfl (hb hby d1_10) k) ?_
    show own_Go p e below K (s₁.setTop (mkF m 11 #[.val (.ref a1), .val (.int p2)] [(.int (1 : Int32)), (.int p2), (.ref a1)]))
    refine own_st (fun t k => XS.iadd X0.here hx rfl (hb hby d1_11) rfl k) ?_
    show own_Go p e below K (s₁.setTop (mkF m 12 #[.val (.ref a1), .val (.int p2)] [(.int (p2 + (1 : Int32))), (.ref a1)]))
    obtain ⟨cl2, Ar2, qa2, Sa2, Ma2, Ha2, Ga2⟩ := id P0
    have hin2 : ¬ ((p2 + (1 : Int32)) < 0 ∨ cl2.slots.size ≤ ((p2 + (1 : Int32))).toNatClampNeg) := inb_of Sa2 ⟨own_nlt (by rw [q1]; show (0 : Int) ≤ _; omega), own_lt (by rw [q1]; omega)⟩
    refine own_st (X0.baloadBytes hx (j := (p2 + (1 : Int32))) (v := (.int (xs.getD ((p2 + (1 : Int32))).toNatClampNeg 0))) (own_hat e0 Ar2.1) (State.isArrayOf_alike hZ.alike Ar2.2.1) Ar2.2.2 hin2 (Has.at Ha2 hin2 (own_atI xs _)) (g := (mkF m 12 #[.val (.ref a1), .val (.int p2)] [(.int (p2 + (1 : Int32))), (.ref a1)])) rfl rfl (hb hby d1_12)) ?_
    show own_Go p e below K (s₁.setTop (mkF m 13 #[.val (.ref a1), .val (.int p2)] [(.int (xs.getD ((p2 + (1 : Int32))).toNatClampNeg 0))]))
    by_cases hc13 : (xs.getD ((p2 + (1 : Int32))).toNatClampNeg 0) < (0 : Int32)
    · refine own_st (fun t k => XS.ifYes X0.here hx rfl (pc0 := 13) (pc' := 20) rfl (hb hby d1_13) rfl ((if0 _ _).trans (tlt hc13).1) (by decide) (by decide) k) ?_
      show own_Go p e below K (s₁.setTop (mkF m 20 #[.val (.ref a1), .val (.int p2)] []))
      have b2 : xi + 1 < xe := own_isnt q1 b1 hnd hc13
      refine own_st (fun t k => XS.aloadN X0.here hx rfl (hb hby d1_20) rfl rfl k) ?_
      show own_Go p e below K (s₁.setTop (mkF m 21 #[.val (.ref a1), .val (.int p2)] [(.ref a1)]))
      refine own_st (fun t k => XS.iloadN X0.here hx rfl (hb hby d1_21) rfl k) ?_
      show own_Go p e below K (s₁.setTop (mkF m 22 #[.val (.ref a1), .val (.int p2)] [(.int p2), (.ref a1)]))
      refine own_st (fun t k => XS.iconst X0.here hx rfl (hb hby d1_22) k) ?_
      show own_Go p e below K (s₁.setTop (mkF m 23 #[.val (.ref a1), .val (.int p2)] [(.int (2 : Int32)), (.int p2), (.ref a1)]))
      refine own_st (fun t k => XS.iadd X0.here hx rfl (hb hby d1_23) rfl k) ?_
      show own_Go p e below K (s₁.setTop (mkF m 24 #[.val (.ref a1), .val (.int p2)] [(.int (p2 + (2 : Int32))), (.ref a1)]))
      obtain ⟨cl3, Ar3, qa3, Sa3, Ma3, Ha3, Ga3⟩ := id P0
      have hin3 : ¬ ((p2 + (2 : Int32)) < 0 ∨ cl3.slots.size ≤ ((p2 + (2 : Int32))).toNatClampNeg) := inb_of Sa3 ⟨own_nlt (by rw [q2]; show (0 : Int) ≤ _; omega), own_lt (by rw [q2]; omega)⟩
      refine own_st (X0.baloadBytes hx (j := (p2 + (2 : Int32))) (v := (.int (xs.getD ((p2 + (2 : Int32))).toNatClampNeg 0))) (own_hat e0 Ar3.1) (State.isArrayOf_alike hZ.alike Ar3.2.1) Ar3.2.2 hin3 (Has.at Ha3 hin3 (own_atI xs _)) (g := (mkF m 24 #[.val (.ref a1), .val (.int p2)] [(.int (p2 + (2 : Int32))), (.ref a1)])) rfl rfl (hb hby d1_24)) ?_
      show own_Go p e below K (s₁.setTop (mkF m 25 #[.val (.ref a1), .val (.int p2)] [(.int (xs.getD ((p2 + (2 : Int32))).toNatClampNeg 0))]))
      by_cases hc25 : (xs.getD ((p2 + (2 : Int32))).toNatClampNeg 0) < (0 : Int32)
      · refine own_st (fun t k => XS.ifYes X0.here hx rfl (pc0 := 25) (pc' := 32) rfl (hb hby d1_25) rfl ((if0 _ _).trans (tlt hc25).1) (by decide) (by decide) k) ?_
        show own_Go p e below K (s₁.setTop (mkF m 32 #[.val (.ref a1), .val (.int p2)] []))
        have b3 : xi + 2 < xe := own_isnt q2 b2 hnd hc25
        refine own_st (fun t k => XS.aloadN X0.here hx rfl (hb hby d1_32) rfl rfl k) ?_
        show own_Go p e below K (s₁.setTop (mkF m 33 #[.val (.ref a1), .val (.int p2)] [(.ref a1)]))
        refine own_st (fun t k => XS.iloadN X0.here hx rfl (hb hby d1_33) rfl k) ?_
        show own_Go p e below K (s₁.setTop (mkF m 34 #[.val (.ref a1), .val (.int p2)] [(.int p2), (.ref a1)]))
        refine own_st (fun t k => XS.iconst X0.here hx rfl (hb hby d1_34) k) ?_
        show own_Go p e below K (s₁.setTop (mkF m 35 #[.val (.ref a1), .val (.int p2)] [(.int (3 : Int32)), (.int p2), (.ref a1)]))
        refine own_st (fun t k => XS.iadd X0.here hx rfl (hb hby d1_35) rfl k) ?_
        show own_Go p e below K (s₁.setTop (mkF m 36 #[.val (.ref a1), .val (.int p2)] [(.int (p2 + (3 : Int32))), (.ref a1)]))
        obtain ⟨cl4, Ar4, qa4, Sa4, Ma4, Ha4, Ga4⟩ := id P0
        have hin4 : ¬ ((p2 + (3 : Int32)) < 0 ∨ cl4.slots.size ≤ ((p2 + (3 : Int32))).toNatClampNeg) := inb_of Sa4 ⟨own_nlt (by rw [q3]; show (0 : Int) ≤ _; omega), own_lt (by rw [q3]; omega)⟩
        refine own_st (X0.baloadBytes hx (j := (p2 + (3 : Int32))) (v := (.int (xs.getD ((p2 + (3 : Int32))).toNatClampNeg 0))) (own_hat e0 Ar4.1) (State.isArrayOf_alike hZ.alike Ar4.2.1) Ar4.2.2 hin4 (Has.at Ha4 hin4 (own_atI xs _)) (g := (mkF m 36 #[.val (.ref a1), .val (.int p2)] [(.int (p2 + (3 : Int32))), (.ref a1)])) rfl rfl (hb hby d1_36)) ?_
        show own_Go p e below K (s₁.setTop (mkF m 37 #[.val (.ref a1), .val (.int p2)] [(.int (xs.getD ((p2 + (3 : Int32))).toNatClampNeg 0))]))
        by_cases hc37 : (xs.getD ((p2 + (3 : Int32))).toNatClampNeg 0) < (0 : Int32)
        · refine own_st (fun t k => XS.ifYes X0.here hx rfl (pc0 := 37) (pc' := 44) rfl (hb hby d1_37) rfl ((if0 _ _).trans (tlt hc37).1) (by decide) (by decide) k) ?_
          show own_Go p e below K (s₁.setTop (mkF m 44 #[.val (.ref a1), .val (.int p2)] []))
          have b4 : xi + 3 < xe := own_isnt q3 b3 hnd hc37
          refine own_st (fun t k => XS.iloadN X0.here hx rfl (hb hby d1_44) rfl k) ?_
          show own_Go p e below K (s₁.setTop (mkF m 45 #[.val (.ref a1), .val (.int p2)] [(.int p2)]))
          refine own_st (fun t k => XS.iconst X0.here hx rfl (hb hby d1_45) k) ?_
          show own_Go p e below K (s₁.setTop (mkF m 46 #[.val (.ref a1), .val (.int p2)] [(.int (4 : Int32)), (.int p2)]))
          refine own_st (fun t k => XS.iadd X0.here hx rfl (hb hby d1_46) rfl k) ?_
          show own_Go p e below K (s₁.setTop (mkF m 47 #[.val (.ref a1), .val (.int p2)] [(.int (p2 + (4 : Int32)))]))
          obtain ⟨fs, hr, hrun, hended, hW, hsame⟩ := X0.leave (v := some (.int (p2 + (4 : Int32)))) (fun h => by rw [Bd.returns] at h; cases h)
          refine ⟨_, retI X0 hx Bd.returns (hb hby d1_47) hr, fin _ _ _ hrun hended ?_ ⟨⟨_, rfl⟩, hW, hsame.mono (by decide) (by decide)⟩⟩
          show Q1 Z a1 p2 xk xn xs xi xe h0 n0 _ s₁.heap _
          rw [e0]
          exact ⟨_, rfl, (by rw [q4]; omega), N0, rfl⟩
        refine own_st (fun t k => XS.ifNo X0.here hx rfl (hb hby d1_37) rfl ((if0 _ _).trans (flt hc37).1) k) ?_
        show own_Go p e below K (s₁.setTop (mkF m 40 #[.val (.ref a1), .val (.int p2)] []))
        refine own_st (fun t k => XS.iloadN X0.here hx rfl (hb hby d1_40) rfl k) ?_
        show own_Go p e below K (s₁.setTop (mkF m 41 #[.val (.ref a1), .val (.int p2)] [(.int p2)]))
        refine own_st (fun t k => XS.iconst X0.here hx rfl (hb hby d1_41) k) ?_
        show own_Go p e below K (s₁.setTop (mkF m 42 #[.val (.ref a1), .val (.int p2)] [(.int (3 : Int32)), (.int p2)]))
        refine own_st (fun t k => XS.iadd X0.here hx rfl (hb hby d1_42) rfl k) ?_
        show own_Go p e below K (s₁.setTop (mkF m 43 #[.val (.ref a1), .val (.int p2)] [(.int (p2 + (3 : Int32)))]))
        obtain ⟨fs, hr, hrun, hended, hW, hsame⟩ := X0.leave (v := some (.int (p2 + (3 : Int32)))) (fun h => by rw [Bd.returns] at h; cases h)
        refine ⟨_, retI X0 hx Bd.returns (hb hby d1_43) hr, fin _ _ _ hrun hended ?_ ⟨⟨_, rfl⟩, hW, hsame.mono (by decide) (by decide)⟩⟩
        show Q1 Z a1 p2 xk xn xs xi xe h0 n0 _ s₁.heap _
        rw [e0]
        exact ⟨_, rfl, (by rw [q3, own_is q3 b3 (fun j a b => hng j (by omega) b) hc37]), N0, rfl⟩
      refine own_st (fun t k => XS.ifNo X0.here hx rfl (hb hby d1_25) rfl ((if0 _ _).trans (flt hc25).1) k) ?_
      show own_Go p e below K (s₁.setTop (mkF m 28 #[.val (.ref a1), .val (.int p2)] []))
      refine own_st (fun t k => XS.iloadN X0.here hx rfl (hb hby d1_28) rfl k) ?_
      show own_Go p e below K (s₁.setTop (mkF m 29 #[.val (.ref a1), .val (.int p2)] [(.int p2)]))
      refine own_st (fun t k => XS.iconst X0.here hx rfl (hb hby d1_29) k) ?_
      show own_Go p e below K (s₁.setTop (mkF m 30 #[.val (.ref a1), .val (.int p2)] [(.int (2 : Int32)), (.int p2)]))
      refine own_st (fun t k => XS.iadd X0.here hx rfl (hb hby d1_30) rfl k) ?_
      show own_Go p e below K (s₁.setTop (mkF m 31 #[.val (.ref a1), .val (.int p2)] [(.int (p2 + (2 : Int32)))]))
      obtain ⟨fs, hr, hrun, hended, hW, hsame⟩ := X0.leave (v := some (.int (p2 + (2 : Int32)))) (fun h => by rw [Bd.returns] at h; cases h)
      refine ⟨_, retI X0 hx Bd.returns (hb hby d1_31) hr, fin _ _ _ hrun hended ?_ ⟨⟨_, rfl⟩, hW, hsame.mono (by decide) (by decide)⟩⟩
      show Q1 Z a1 p2 xk xn xs xi xe h0 n0 _ s₁.heap _
      rw [e0]
      exact ⟨_, rfl, (by rw [q2, own_is q2 b2 (fun j a b => hng j (by omega) b) hc25]), N0, rfl⟩
    refine own_st (fun t k => XS.ifNo X0.here hx rfl (hb hby d1_13) rfl ((if0 _ _).trans (flt hc13).1) k) ?_
    show own_Go p e below K (s₁.setTop (mkF m 16 #[.val (.ref a1), .val (.int p2)] []))
    refine own_st (fun t k => XS.iloadN X0.here hx rfl (hb hby d1_16) rfl k) ?_
    show own_Go p e below K (s₁.setTop (mkF m 17 #[.val (.ref a1), .val (.int p2)] [(.int p2)]))
    refine own_st (fun t k => XS.iconst X0.here hx rfl (hb hby d1_17) k) ?_
    show own_Go p e below K (s₁.setTop (mkF m 18 #[.val (.ref a1), .val (.int p2)] [(.int (1 : Int32)), (.int p2)]))
    refine own_st (fun t k => XS.iadd X0.here hx rfl (hb hby d1_18) rfl k) ?_
    show own_Go p e below K (s₁.setTop (mkF m 19 #[.val (.ref a1), .val (.int p2)] [(.int (p2 + (1 : Int32)))]))
    obtain ⟨fs, hr, hrun, hended, hW, hsame⟩ := X0.leave (v := some (.int (p2 + (1 : Int32)))) (fun h => by rw [Bd.returns] at h; cases h)
    refine ⟨_, retI X0 hx Bd.returns (hb hby d1_19) hr, fin _ _ _ hrun hended ?_ ⟨⟨_, rfl⟩, hW, hsame.mono (by decide) (by decide)⟩⟩
    show Q1 Z a1 p2 xk xn xs xi xe h0 n0 _ s₁.heap _
    rw [e0]
    exact ⟨_, rfl, (by rw [q1, own_is q1 b1 (fun j a b => hng j (by omega) b) hc13]), N0, rfl⟩
  refine own_st (fun t k => XS.ifNo X0.here hx rfl (hb hby d1_3) rfl ((if0 _ _).trans (flt hc3).1) k) ?_
  show own_Go p e below K (s₁.setTop (mkF m 6 #[.val (.ref a1), .val (.int p2)] []))
  refine own_st (fun t k => XS.iloadN X0.here hx rfl (hb hby d1_6) rfl k) ?_
  show own_Go p e below K (s₁.setTop (mkF m 7 #[.val (.ref a1), .val (.int p2)] [(.int p2)]))
  obtain ⟨fs, hr, hrun, hended, hW, hsame⟩ := X0.leave (v := some (.int p2)) (fun h => by rw [Bd.returns] at h; cases h)
  refine ⟨_, retI X0 hx Bd.returns (hb hby d1_7) hr, fin _ _ _ hrun hended ?_ ⟨⟨_, rfl⟩, hW, hsame.mono (by decide) (by decide)⟩⟩
  show Q1 Z a1 p2 xk xn xs xi xe h0 n0 _ s₁.heap _
  rw [e0]
  exact ⟨_, rfl, (by rw [q0, own_is q0 hie (fun j a b => hng j (by omega) b) hc3]), N0, rfl⟩
theorem d3_0 : decode method_3_code 0 = .ok (.iload_n 1, 1) := by decide +kernel
theorem d3_1 : decode method_3_code 1 = .ok (.iload_n 2, 1) := by decide +kernel
theorem d3_2 : decode method_3_code 2 = .ok (.if_icmp .gt 15, 3) := by decide +kernel
theorem d3_5 : decode method_3_code 5 = .ok (.aload_n 0, 1) := by decide +kernel
theorem d3_6 : decode method_3_code 6 = .ok (.iload_n 1, 1) := by decide +kernel
theorem d3_7 : decode method_3_code 7 = .ok (.baload, 1) := by decide +kernel
theorem d3_8 : decode method_3_code 8 = .ok (.bipush 127, 2) := by decide +kernel
theorem d3_10 : decode method_3_code 10 = .ok (.iand, 1) := by decide +kernel
theorem d3_11 : decode method_3_code 11 = .ok (.i2l, 1) := by decide +kernel
theorem d3_12 : decode method_3_code 12 = .ok (.lload_n 3, 1) := by decide +kernel
theorem d3_13 : decode method_3_code 13 = .ok (.lmul, 1) := by decide +kernel
theorem d3_14 : decode method_3_code 14 = .ok (.goto 4, 3) := by decide +kernel
theorem d3_17 : decode method_3_code 17 = .ok (.lconst 0, 1) := by decide +kernel
theorem d3_18 : decode method_3_code 18 = .ok (.lreturn, 1) := by decide +kernel
theorem pn_3 : plainName "com/example/ms2rank/ms2rank/candidate/UnpackerNumberPinLaw" = true := by first | (simp [plainName, overriddenIn]; done) | decide +kernel
theorem ef_3 (m : MethodId) (x0 : Addr) (x1 : Int32) (x2 : Int32) (x3 : Int64) : entryFrame m #[(.ref x0), (.int x1), (.int x2), (.long x3)] 5 = mkF m 0 #[.val (.ref x0), .val (.int x1), .val (.int x2), .val (.long x3), .second] [] := by first | (simp [entryFrame, mkF, argsToLocals, Value.category]; done) | rfl
def Q3 (Z : State) (a1 : Addr) (p2 : Int32) (p3 : Int32) (q4 : Int64) (xk : ClassId) (xn : Int32) (xs : List Int32) (h0 : Heap) (n0 : Nat) (v : Option Value) (h : Heap) (L : List Loc) : Prop := ∃ (r : Int64), v = some (.long r) ∧ (r = own_tm xs p2 p3 q4) ∧ Fr n0 L ∧ h = h0
set_option maxRecDepth 65536 in
set_option maxHeartbeats 40000000 in
theorem rm3 (l : Launch) (Z : State) (a0 : Array Value) (hw : ∀ d ∈ tables_1, d.before a0 Z = true) (ws : List Jvm.Cond) (a1 : Addr) (p2 : Int32) (p3 : Int32) (q4 : Int64) (xk : ClassId) (xn : Int32) (xs : List Int32) (h0 : Heap) (n0 : Nat) (Z0 : n0 ≤ h0.size) (P0 : Arv Z h0 a1 xk .byte xn (xs.map Value.int) (.int (0 : Int32))) (hz0 : 0 ≤ p2.toInt) (hz1 : p3.toInt < xn.toInt) :
    MetFree l (⟨"com/example/ms2rank/ms2rank/candidate/UnpackerNumberPinLaw", "term", "([BIIJ)J"⟩ : MethodName) (head1 (Jvm.Cond.code (⟨"com/example/ms2rank/ms2rank/candidate/UnpackerNumberPinLaw", "term", "([BIIJ)J"⟩ : MethodName) method_3_code 5 (some .long) :: ws) ({ frames := 0, cells := 0, slots := 0, locals := 0 } : Room)) (fun a U => a = #[(.ref a1), (.int p2), (.int p3), (.long q4)] ∧ Z.Warmed39 U.vm ∧ U.heap = h0) (fun _ _ _ _ _ => True) (fun _ U o U' => ∃ v L, o = .returned v ∧ Q3 Z a1 p2 p3 q4 xk xn xs h0 n0 v U'.heap L ∧ FrameEnd U o U' L ({ frames := 0, cells := 0, slots := 0, locals := 0 } : Room).cells ({ frames := 0, cells := 0, slots := 0, locals := 0 } : Room).slots) := by
  refine MetFree.of_bodySF (plainFor_of_name pn_3) hisR ?_
  intro p e s m args below meth c s₁ Bd hml0 hP hK
  obtain ⟨rfl, hZ, hh⟩ := hP
  have hx := Bd.exec
  have hby := Bd.bytes
  have hml : c.maxLocals = 5 := hml0
  have hown : s.vm.findClass "com/example/ms2rank/ms2rank/candidate/UnpackerNumberPinLaw" = some m.cls := findClass_of_methodNamed Bd.named
  have hnm := (name_of_methodNamed Bd.named Bd.method).1
  have X0 : Stand p l e ({ frames := 0, cells := 0, slots := 0, locals := 0 } : Room) s m #[(.ref a1), (.int p2), (.int p3), (.long q4)] below meth c s₁ [] 0 0 := Stand.of_body Bd
  have e0 : s₁.heap = h0 := by rw [← hh, Bd.state]; rfl
  have N0 := Fr.nil n0
  suffices G0 : ∀ K : State → Prop, (∀ (n : State) (v : Option Value) (L : List Loc), n.status = .running → Ended n below (.returned v) → Q3 Z a1 p2 p3 q4 xk xn xs h0 n0 v n.heap L → FrameEnd s (.returned v) n L ({ frames := 0, cells := 0, slots := 0, locals := 0 } : Room).cells ({ frames := 0, cells := 0, slots := 0, locals := 0 } : Room).slots → K n) → own_Go p e below K (s₁.setTop (mkF m 0 #[.val (.ref a1), .val (.int p2), .val (.int p3), .val (.long q4), .second] [])) by
    obtain ⟨t, st, o, a, b, v, L, e1, q, fe⟩ := G0 (fun n => ∃ o, n.status = .running ∧ Ended n below o ∧ ∃ v L, o = .returned v ∧ Q3 Z a1 p2 p3 q4 xk xn xs h0 n0 v n.heap L ∧ FrameEnd s o n L ({ frames := 0, cells := 0, slots := 0, locals := 0 } : Room).cells ({ frames := 0, cells := 0, slots := 0, locals := 0 } : Room).slots) (fun n v L a b q f => ⟨_, a, b, v, L, rfl, q, f⟩)
    exact ⟨t, o, castTop (ef_3 m a1 p2 p3 q4) st, a, b, v, L, e1, q, fe⟩
  intro K fin
  show own_Go p e below K (s₁.setTop (mkF m 0 #[.val (.ref a1), .val (.int p2), .val (.int p3), .val (.long q4), .second] []))
  refine own_st (fun t k => XS.iloadN X0.here hx rfl (hb hby d3_0) rfl k) ?_
  show own_Go p e below K (s₁.setTop (mkF m 1 #[.val (.ref a1), .val (.int p2), .val (.int p3), .val (.long q4), .second] [(.int p2)]))
  refine own_st (fun t k => XS.iloadN X0.here hx rfl (hb hby d3_1) rfl k) ?_
  show own_Go p e below K (s₁.setTop (mkF m 2 #[.val (.ref a1), .val (.int p2), .val (.int p3), .val (.long q4), .second] [(.int p3), (.int p2)]))
  by_cases hc2 : p3 < p2
  · refine own_st (fun t k => XS.icmpYes X0.here hx rfl (pc0 := 2) (pc' := 17) rfl (hb hby d3_2) rfl (tlt hc2).2.2.1 (by decide) (by decide) k) ?_
    show own_Go p e below K (s₁.setTop (mkF m 17 #[.val (.ref a1), .val (.int p2), .val (.int p3), .val (.long q4), .second] []))
    refine own_st (fun t k => XS.lconst X0.here hx rfl (hb hby d3_17) k) ?_
    show own_Go p e below K (s₁.setTop (mkF m 18 #[.val (.ref a1), .val (.int p2), .val (.int p3), .val (.long q4), .second] [(.long (0 : Int64))]))
    obtain ⟨fs, hr, hrun, hended, hW, hsame⟩ := X0.leave (v := some (.long (0 : Int64))) (fun h => by rw [Bd.returns] at h; cases h)
    refine ⟨_, X0.lreturnOut hx Bd.returns (hb hby d3_18) hr, fin _ _ _ hrun hended ?_ ⟨⟨_, rfl⟩, hW, hsame.mono (by decide) (by decide)⟩⟩
    show Q3 Z a1 p2 p3 q4 xk xn xs h0 n0 _ s₁.heap _
    rw [e0]
    exact ⟨_, rfl, (if_pos hc2).symm, N0, rfl⟩
  refine own_st (fun t k => XS.icmpNo X0.here hx rfl (hb hby d3_2) rfl (flt hc2).2.2.1 k) ?_
  show own_Go p e below K (s₁.setTop (mkF m 5 #[.val (.ref a1), .val (.int p2), .val (.int p3), .val (.long q4), .second] []))
  refine own_st (fun t k => XS.aloadN X0.here hx rfl (hb hby d3_5) rfl rfl k) ?_
  show own_Go p e below K (s₁.setTop (mkF m 6 #[.val (.ref a1), .val (.int p2), .val (.int p3), .val (.long q4), .second] [(.ref a1)]))
  refine own_st (fun t k => XS.iloadN X0.here hx rfl (hb hby d3_6) rfl k) ?_
  show own_Go p e below K (s₁.setTop (mkF m 7 #[.val (.ref a1), .val (.int p2), .val (.int p3), .val (.long q4), .second] [(.int p2), (.ref a1)]))
  obtain ⟨cl1, Ar1, qa1, Sa1, Ma1, Ha1, Ga1⟩ := id P0
  have hin1 : ¬ (p2 < 0 ∨ cl1.slots.size ≤ (p2).toNatClampNeg) := inb_of Sa1 ⟨own_nlt hz0, own_lt (by have := own_nltI hc2; omega)⟩
  refine own_st (X0.baloadBytes hx (j := p2) (v := (.int (xs.getD (p2).toNatClampNeg 0))) (own_hat e0 Ar1.1) (State.isArrayOf_alike hZ.alike Ar1.2.1) Ar1.2.2 hin1 (Has.at Ha1 hin1 (own_atI xs _)) (g := (mkF m 7 #[.val (.ref a1), .val (.int p2), .val (.int p3), .val (.long q4), .second] [(.int p2), (.ref a1)])) rfl rfl (hb hby d3_7)) ?_
  show own_Go p e below K (s₁.setTop (mkF m 8 #[.val (.ref a1), .val (.int p2), .val (.int p3), .val (.long q4), .second] [(.int (xs.getD (p2).toNatClampNeg 0))]))
  refine own_st (fun t k => XS.bipush X0.here hx rfl (hb hby d3_8) k) ?_
  show own_Go p e below K (s₁.setTop (mkF m 10 #[.val (.ref a1), .val (.int p2), .val (.int p3), .val (.long q4), .second] [(.int (127 : Int32)), (.int (xs.getD (p2).toNatClampNeg 0))]))
  refine own_st (fun t k => XS.iand X0.here hx rfl (hb hby d3_10) rfl k) ?_
  show own_Go p e below K (s₁.setTop (mkF m 11 #[.val (.ref a1), .val (.int p2), .val (.int p3), .val (.long q4), .second] [(.int ((xs.getD (p2).toNatClampNeg 0) &&& (127 : Int32)))]))
  refine own_st (fun t k => XS.i2l X0.here hx rfl (hb hby d3_11) rfl k) ?_
  show own_Go p e below K (s₁.setTop (mkF m 12 #[.val (.ref a1), .val (.int p2), .val (.int p3), .val (.long q4), .second] [(.long (((xs.getD (p2).toNatClampNeg 0) &&& (127 : Int32)).toInt64))]))
  refine own_st (fun t k => XS.lloadN X0.here hx rfl (hb hby d3_12) rfl k) ?_
  show own_Go p e below K (s₁.setTop (mkF m 13 #[.val (.ref a1), .val (.int p2), .val (.int p3), .val (.long q4), .second] [(.long q4), (.long (((xs.getD (p2).toNatClampNeg 0) &&& (127 : Int32)).toInt64))]))
  refine own_st (fun t k => XS.lmul X0.here hx rfl (hb hby d3_13) rfl k) ?_
  show own_Go p e below K (s₁.setTop (mkF m 14 #[.val (.ref a1), .val (.int p2), .val (.int p3), .val (.long q4), .second] [(.long ((((xs.getD (p2).toNatClampNeg 0) &&& (127 : Int32)).toInt64) * q4))]))
  refine own_st (fun t k => XS.goto X0.here hx rfl (pc0 := 14) (pc' := 18) rfl (hb hby d3_14) (by decide) (by decide) k) ?_
  show own_Go p e below K (s₁.setTop (mkF m 18 #[.val (.ref a1), .val (.int p2), .val (.int p3), .val (.long q4), .second] [(.long ((((xs.getD (p2).toNatClampNeg 0) &&& (127 : Int32)).toInt64) * q4))]))
  obtain ⟨fs, hr, hrun, hended, hW, hsame⟩ := X0.leave (v := some (.long ((((xs.getD (p2).toNatClampNeg 0) &&& (127 : Int32)).toInt64) * q4))) (fun h => by rw [Bd.returns] at h; cases h)
  refine ⟨_, X0.lreturnOut hx Bd.returns (hb hby d3_18) hr, fin _ _ _ hrun hended ?_ ⟨⟨_, rfl⟩, hW, hsame.mono (by decide) (by decide)⟩⟩
  show Q3 Z a1 p2 p3 q4 xk xn xs h0 n0 _ s₁.heap _
  rw [e0]
  exact ⟨_, rfl, (if_neg hc2).symm, N0, rfl⟩
theorem d2_0 : decode method_4_code 0 = .ok (.aload_n 0, 1) := by decide +kernel
theorem d2_1 : decode method_4_code 1 = .ok (.iload_n 1, 1) := by decide +kernel
theorem d2_2 : decode method_4_code 2 = .ok (.iload_n 2, 1) := by decide +kernel
theorem d2_3 : decode method_4_code 3 = .ok (.lconst 1, 1) := by decide +kernel
theorem d2_4 : decode method_4_code 4 = .ok (.invokestatic 7, 3) := by decide +kernel
theorem d2_7 : decode method_4_code 7 = .ok (.aload_n 0, 1) := by decide +kernel
theorem d2_8 : decode method_4_code 8 = .ok (.iload_n 1, 1) := by decide +kernel
theorem d2_9 : decode method_4_code 9 = .ok (.iconst 1, 1) := by decide +kernel
theorem d2_10 : decode method_4_code 10 = .ok (.iadd, 1) := by decide +kernel
theorem d2_11 : decode method_4_code 11 = .ok (.iload_n 2, 1) := by decide +kernel
theorem d2_12 : decode method_4_code 12 = .ok (.ldc2_w 13, 3) := by decide +kernel
theorem d2_15 : decode method_4_code 15 = .ok (.invokestatic 7, 3) := by decide +kernel
theorem d2_18 : decode method_4_code 18 = .ok (.ladd, 1) := by decide +kernel
theorem d2_19 : decode method_4_code 19 = .ok (.aload_n 0, 1) := by decide +kernel
theorem d2_20 : decode method_4_code 20 = .ok (.iload_n 1, 1) := by decide +kernel
theorem d2_21 : decode method_4_code 21 = .ok (.iconst 2, 1) := by decide +kernel
theorem d2_22 : decode method_4_code 22 = .ok (.iadd, 1) := by decide +kernel
theorem d2_23 : decode method_4_code 23 = .ok (.iload_n 2, 1) := by decide +kernel
theorem d2_24 : decode method_4_code 24 = .ok (.ldc2_w 15, 3) := by decide +kernel
theorem d2_27 : decode method_4_code 27 = .ok (.invokestatic 7, 3) := by decide +kernel
theorem d2_30 : decode method_4_code 30 = .ok (.ladd, 1) := by decide +kernel
theorem d2_31 : decode method_4_code 31 = .ok (.aload_n 0, 1) := by decide +kernel
theorem d2_32 : decode method_4_code 32 = .ok (.iload_n 1, 1) := by decide +kernel
theorem d2_33 : decode method_4_code 33 = .ok (.iconst 3, 1) := by decide +kernel
theorem d2_34 : decode method_4_code 34 = .ok (.iadd, 1) := by decide +kernel
theorem d2_35 : decode method_4_code 35 = .ok (.iload_n 2, 1) := by decide +kernel
theorem d2_36 : decode method_4_code 36 = .ok (.ldc2_w 17, 3) := by decide +kernel
theorem d2_39 : decode method_4_code 39 = .ok (.invokestatic 7, 3) := by decide +kernel
theorem d2_42 : decode method_4_code 42 = .ok (.ladd, 1) := by decide +kernel
theorem d2_43 : decode method_4_code 43 = .ok (.aload_n 0, 1) := by decide +kernel
theorem d2_44 : decode method_4_code 44 = .ok (.iload_n 1, 1) := by decide +kernel
theorem d2_45 : decode method_4_code 45 = .ok (.iconst 4, 1) := by decide +kernel
theorem d2_46 : decode method_4_code 46 = .ok (.iadd, 1) := by decide +kernel
theorem d2_47 : decode method_4_code 47 = .ok (.iload_n 2, 1) := by decide +kernel
theorem d2_48 : decode method_4_code 48 = .ok (.ldc2_w 19, 3) := by decide +kernel
theorem d2_51 : decode method_4_code 51 = .ok (.invokestatic 7, 3) := by decide +kernel
theorem d2_54 : decode method_4_code 54 = .ok (.ladd, 1) := by decide +kernel
theorem d2_55 : decode method_4_code 55 = .ok (.lstore_n 3, 1) := by decide +kernel
theorem d2_56 : decode method_4_code 56 = .ok (.lload_n 3, 1) := by decide +kernel
theorem d2_57 : decode method_4_code 57 = .ok (.l2i, 1) := by decide +kernel
theorem d2_58 : decode method_4_code 58 = .ok (.ireturn, 1) := by decide +kernel
theorem pn_2 : plainName "com/example/ms2rank/ms2rank/candidate/UnpackerNumberPinLaw" = true := by first | (simp [plainName, overriddenIn]; done) | decide +kernel
theorem pd_2_2 : parseMethodDescriptor "([BIIJ)J" = some ⟨[(.array .byte), .int, .int, .long], some .long⟩ := by decide +kernel
theorem ef_2 (m : MethodId) (x0 : Addr) (x1 : Int32) (x2 : Int32) : entryFrame m #[(.ref x0), (.int x1), (.int x2)] 5 = mkF m 0 #[.val (.ref x0), .val (.int x1), .val (.int x2), .unset, .unset] [] := by first | (simp [entryFrame, mkF, argsToLocals, Value.category]; done) | rfl
def Q2 (Z : State) (a1 : Addr) (p2 : Int32) (p3 : Int32) (xk : ClassId) (xn : Int32) (xs : List Int32) (xi : Nat) (h0 : Heap) (n0 : Nat) (v : Option Value) (h : Heap) (L : List Loc) : Prop := ∃ (r : Int32), v = some (.int r) ∧ (r = own_ex xs p2 p3) ∧ Fr n0 L ∧ h = h0
set_option maxRecDepth 65536 in
set_option maxHeartbeats 40000000 in
theorem rm2 (l : Launch) (Z : State) (a0 : Array Value) (hw : ∀ d ∈ tables_1, d.before a0 Z = true) (ws : List Jvm.Cond) (a1 : Addr) (p2 : Int32) (p3 : Int32) (xk : ClassId) (xn : Int32) (xs : List Int32) (xi : Nat) (h0 : Heap) (n0 : Nat) (Z0 : n0 ≤ h0.size) (P0 : Arv Z h0 a1 xk .byte xn (xs.map Value.int) (.int (0 : Int32))) (hxi : p2.toInt = (xi : Int)) (h50 : xi < 50) (hz1 : p3.toInt < xn.toInt) :
    MetFree l (⟨"com/example/ms2rank/ms2rank/candidate/UnpackerNumberPinLaw", "expected", "([BII)I"⟩ : MethodName) (head1 (Jvm.Cond.code (⟨"com/example/ms2rank/ms2rank/candidate/UnpackerNumberPinLaw", "expected", "([BII)I"⟩ : MethodName) method_4_code 5 (some .int) :: ws) ({ frames := 1, cells := 0, slots := 0, locals := 18 } : Room)) (fun a U => a = #[(.ref a1), (.int p2), (.int p3)] ∧ Z.Warmed39 U.vm ∧ U.heap = h0) (fun _ _ _ _ _ => True) (fun _ U o U' => ∃ v L, o = .returned v ∧ Q2 Z a1 p2 p3 xk xn xs xi h0 n0 v U'.heap L ∧ FrameEnd U o U' L ({ frames := 1, cells := 0, slots := 0, locals := 18 } : Room).cells ({ frames := 1, cells := 0, slots := 0, locals := 18 } : Room).slots) := by
  refine MetFree.of_bodySF (plainFor_of_name pn_2) hisR ?_
  intro p e s m args below meth c s₁ Bd hml0 hP hK
  obtain ⟨rfl, hZ, hh⟩ := hP
  have hx := Bd.exec
  have hby := Bd.bytes
  have hml : c.maxLocals = 5 := hml0
  have hown : s.vm.findClass "com/example/ms2rank/ms2rank/candidate/UnpackerNumberPinLaw" = some m.cls := findClass_of_methodNamed Bd.named
  have hnm := (name_of_methodNamed Bd.named Bd.method).1
  have X0 : Stand p l e ({ frames := 1, cells := 0, slots := 0, locals := 18 } : Room) s m #[(.ref a1), (.int p2), (.int p3)] below meth c s₁ [] 0 0 := Stand.of_body Bd
  have e0 : s₁.heap = h0 := by rw [← hh, Bd.state]; rfl
  have N0 := Fr.nil n0
  suffices G0 : ∀ K : State → Prop, (∀ (n : State) (v : Option Value) (L : List Loc), n.status = .running → Ended n below (.returned v) → Q2 Z a1 p2 p3 xk xn xs xi h0 n0 v n.heap L → FrameEnd s (.returned v) n L ({ frames := 1, cells := 0, slots := 0, locals := 18 } : Room).cells ({ frames := 1, cells := 0, slots := 0, locals := 18 } : Room).slots → K n) → own_Go p e below K (s₁.setTop (mkF m 0 #[.val (.ref a1), .val (.int p2), .val (.int p3), .unset, .unset] [])) by
    obtain ⟨t, st, o, a, b, v, L, e1, q, fe⟩ := G0 (fun n => ∃ o, n.status = .running ∧ Ended n below o ∧ ∃ v L, o = .returned v ∧ Q2 Z a1 p2 p3 xk xn xs xi h0 n0 v n.heap L ∧ FrameEnd s o n L ({ frames := 1, cells := 0, slots := 0, locals := 18 } : Room).cells ({ frames := 1, cells := 0, slots := 0, locals := 18 } : Room).slots) (fun n v L a b q f => ⟨_, a, b, v, L, rfl, q, f⟩)
    exact ⟨t, o, castTop (ef_2 m a1 p2 p3) st, a, b, v, L, e1, q, fe⟩
  intro K fin
  show own_Go p e below K (s₁.setTop (mkF m 0 #[.val (.ref a1), .val (.int p2), .val (.int p3), .unset, .unset] []))
  refine own_st (fun t k => XS.aloadN X0.here hx rfl (hb hby d2_0) rfl rfl k) ?_
  show own_Go p e below K (s₁.setTop (mkF m 1 #[.val (.ref a1), .val (.int p2), .val (.int p3), .unset, .unset] [(.ref a1)]))
  refine own_st (fun t k => XS.iloadN X0.here hx rfl (hb hby d2_1) rfl k) ?_
  show own_Go p e below K (s₁.setTop (mkF m 2 #[.val (.ref a1), .val (.int p2), .val (.int p3), .unset, .unset] [(.int p2), (.ref a1)]))
  refine own_st (fun t k => XS.iloadN X0.here hx rfl (hb hby d2_2) rfl k) ?_
  show own_Go p e below K (s₁.setTop (mkF m 3 #[.val (.ref a1), .val (.int p2), .val (.int p3), .unset, .unset] [(.int p3), (.int p2), (.ref a1)]))
  refine own_st (fun t k => XS.lconst X0.here hx rfl (hb hby d2_3) k) ?_
  show own_Go p e below K (s₁.setTop (mkF m 4 #[.val (.ref a1), .val (.int p2), .val (.int p3), .unset, .unset] [(.long (1 : Int64)), (.int p3), (.int p2), (.ref a1)]))
  obtain ⟨_, _, ⟨T1, L1, k1, n1⟩, -, X1, ⟨Lc1, hQ1, l1, y1, z1⟩, st1⟩ := Jvm.LawKit.callS X0 hx (y := (⟨"com/example/ms2rank/ms2rank/candidate/UnpackerNumberPinLaw", "term", "([BIIJ)J"⟩ : MethodName)) hown (mvT hZ (hw _ (List.mem_of_getElem? (i := 8) rfl))) (mvT hZ (hw _ (List.mem_of_getElem? (i := 9) rfl))) (mvT hZ (hw _ (List.mem_of_getElem? (i := 3) rfl))) (mvT hZ (hw _ (List.mem_of_getElem? (i := 10) rfl))) (by decide) (backOf (W := 0) (rm3 l Z a0 hw [] a1 p2 p3 (1 : Int64) (xk) (xn) (xs) h0 n0 Z0 P0 (by omega) hz1) hZ (hw _ (List.mem_of_getElem? (i := 10) rfl)) (hw _ (List.mem_of_getElem? (i := 3) rfl)) (by decide) (by decide)) (g := (mkF m 4 #[.val (.ref a1), .val (.int p2), .val (.int p3), .unset, .unset] [(.long (1 : Int64)), (.int p3), (.int p2), (.ref a1)])) rfl (by rw [hml]; rfl) (argsL := [(.ref a1), (.int p2), (.int p3), (.long (1 : Int64))]) (rest := []) (lenOf pd_2_2 rfl) rfl (by show 2 * 0 + _ ≤ _; exact Nat.le_of_eq rfl) (hb hby d2_4) (fun _ _ => ⟨rfl, e0, (by decide : 0 + 0 ≤ _), (by decide : 0 + 0 ≤ _)⟩)
  dsimp only [Pt.U, Pt.locs, Pt.cells, Pt.slots] at X1 l1 y1 z1 st1 hQ1
  subst l1 y1 z1
  obtain ⟨r1, rfl, hr1, N1q, e1⟩ := hQ1
  have N1 := Fr.app N0 N1q
  refine own_st st1 ?_
  show own_Go p e below K (T1.setTop (mkF m 7 #[.val (.ref a1), .val (.int p2), .val (.int p3), .unset, .unset] [(.long r1)]))
  refine own_st (fun t k => XS.aloadN X1.here hx rfl (hb hby d2_7) rfl rfl k) ?_
  show own_Go p e below K (T1.setTop (mkF m 8 #[.val (.ref a1), .val (.int p2), .val (.int p3), .unset, .unset] [(.ref a1), (.long r1)]))
  refine own_st (fun t k => XS.iloadN X1.here hx rfl (hb hby d2_8) rfl k) ?_
  show own_Go p e below K (T1.setTop (mkF m 9 #[.val (.ref a1), .val (.int p2), .val (.int p3), .unset, .unset] [(.int p2), (.ref a1), (.long r1)]))
  refine own_st (fun t k => XS.iconst X1.here hx rfl (hb hby d2_9) k) ?_
  show own_Go p e below K (T1.setTop (mkF m 10 #[.val (.ref a1), .val (.int p2), .val (.int p3), .unset, .unset] [(.int (1 : Int32)), (.int p2), (.ref a1), (.long r1)]))
  refine own_st (fun t k => XS.iadd X1.here hx rfl (hb hby d2_10) rfl k) ?_
  show own_Go p e below K (T1.setTop (mkF m 11 #[.val (.ref a1), .val (.int p2), .val (.int p3), .unset, .unset] [(.int (p2 + (1 : Int32))), (.ref a1), (.long r1)]))
  refine own_st (fun t k => XS.iloadN X1.here hx rfl (hb hby d2_11) rfl k) ?_
  show own_Go p e below K (T1.setTop (mkF m 12 #[.val (.ref a1), .val (.int p2), .val (.int p3), .unset, .unset] [(.int p3), (.int (p2 + (1 : Int32))), (.ref a1), (.long r1)]))
  refine own_st (X1.ldc2Long hx hown (mvT hZ (hw _ (List.mem_of_getElem? (i := 11) rfl))) (g := (mkF m 12 #[.val (.ref a1), .val (.int p2), .val (.int p3), .unset, .unset] [(.int p3), (.int (p2 + (1 : Int32))), (.ref a1), (.long r1)])) rfl (hb hby d2_12)) ?_
  show own_Go p e below K (T1.setTop (mkF m 15 #[.val (.ref a1), .val (.int p2), .val (.int p3), .unset, .unset] [(.long (128 : Int64)), (.int p3), (.int (p2 + (1 : Int32))), (.ref a1), (.long r1)]))
  obtain ⟨_, _, ⟨T2, L2, k2, n2⟩, -, X2, ⟨Lc2, hQ2, l2, y2, z2⟩, st2⟩ := Jvm.LawKit.callS X1 hx (y := (⟨"com/example/ms2rank/ms2rank/candidate/UnpackerNumberPinLaw", "term", "([BIIJ)J"⟩ : MethodName)) hown (mvT hZ (hw _ (List.mem_of_getElem? (i := 8) rfl))) (mvT hZ (hw _ (List.mem_of_getElem? (i := 9) rfl))) (mvT hZ (hw _ (List.mem_of_getElem? (i := 3) rfl))) (mvT hZ (hw _ (List.mem_of_getElem? (i := 10) rfl))) (by decide) (backOf (W := 2) (rm3 l Z a0 hw [] a1 (p2 + (1 : Int32)) p3 (128 : Int64) (xk) (xn) (xs) h0 n0 Z0 P0 (by have := own_pk hxi (by omega) 1 (by decide); have t : (1 : Int32).toInt = 1 := (by decide); rw [t] at this; omega) hz1) hZ (hw _ (List.mem_of_getElem? (i := 10) rfl)) (hw _ (List.mem_of_getElem? (i := 3) rfl)) (by decide) (by decide)) (g := (mkF m 15 #[.val (.ref a1), .val (.int p2), .val (.int p3), .unset, .unset] [(.long (128 : Int64)), (.int p3), (.int (p2 + (1 : Int32))), (.ref a1), (.long r1)])) rfl (by rw [hml]; rfl) (argsL := [(.ref a1), (.int (p2 + (1 : Int32))), (.int p3), (.long (128 : Int64))]) (rest := [(.long r1)]) (lenOf pd_2_2 rfl) rfl (by show 2 * 0 + _ ≤ _; exact Nat.le_of_eq rfl) (hb hby d2_15) (fun _ _ => ⟨rfl, e1, (by decide : 0 + 0 ≤ _), (by decide : 0 + 0 ≤ _)⟩)
  dsimp only [Pt.U, Pt.locs, Pt.cells, Pt.slots] at X2 l2 y2 z2 st2 hQ2
  subst l2 y2 z2
  obtain ⟨r2, rfl, hr2, N2q, e2⟩ := hQ2
  have N2 := Fr.app N1 N2q
  refine own_st st2 ?_
  show own_Go p e below K (T2.setTop (mkF m 18 #[.val (.ref a1), .val (.int p2), .val (.int p3), .unset, .unset] [(.long r2), (.long r1)]))
  refine own_st (fun t k => XS.ladd X2.here hx rfl (hb hby d2_18) rfl k) ?_
  show own_Go p e below K (T2.setTop (mkF m 19 #[.val (.ref a1), .val (.int p2), .val (.int p3), .unset, .unset] [(.long (r1 + r2))]))
  refine own_st (fun t k => XS.aloadN X2.here hx rfl (hb hby d2_19) rfl rfl k) ?_
  show own_Go p e below K (T2.setTop (mkF m 20 #[.val (.ref a1), .val (.int p2), .val (.int p3), .unset, .unset] [(.ref a1), (.long (r1 + r2))]))
  refine own_st (fun t k => XS.iloadN X2.here hx rfl (hb hby d2_20) rfl k) ?_
  show own_Go p e below K (T2.setTop (mkF m 21 #[.val (.ref a1), .val (.int p2), .val (.int p3), .unset, .unset] [(.int p2), (.ref a1), (.long (r1 + r2))]))
  refine own_st (fun t k => XS.iconst X2.here hx rfl (hb hby d2_21) k) ?_
  show own_Go p e below K (T2.setTop (mkF m 22 #[.val (.ref a1), .val (.int p2), .val (.int p3), .unset, .unset] [(.int (2 : Int32)), (.int p2), (.ref a1), (.long (r1 + r2))]))
  refine own_st (fun t k => XS.iadd X2.here hx rfl (hb hby d2_22) rfl k) ?_
  show own_Go p e below K (T2.setTop (mkF m 23 #[.val (.ref a1), .val (.int p2), .val (.int p3), .unset, .unset] [(.int (p2 + (2 : Int32))), (.ref a1), (.long (r1 + r2))]))
  refine own_st (fun t k => XS.iloadN X2.here hx rfl (hb hby d2_23) rfl k) ?_
  show own_Go p e below K (T2.setTop (mkF m 24 #[.val (.ref a1), .val (.int p2), .val (.int p3), .unset, .unset] [(.int p3), (.int (p2 + (2 : Int32))), (.ref a1), (.long (r1 + r2))]))
  refine own_st (X2.ldc2Long hx hown (mvT hZ (hw _ (List.mem_of_getElem? (i := 12) rfl))) (g := (mkF m 24 #[.val (.ref a1), .val (.int p2), .val (.int p3), .unset, .unset] [(.int p3), (.int (p2 + (2 : Int32))), (.ref a1), (.long (r1 + r2))])) rfl (hb hby d2_24)) ?_
  show own_Go p e below K (T2.setTop (mkF m 27 #[.val (.ref a1), .val (.int p2), .val (.int p3), .unset, .unset] [(.long (16384 : Int64)), (.int p3), (.int (p2 + (2 : Int32))), (.ref a1), (.long (r1 + r2))]))
  obtain ⟨_, _, ⟨T3, L3, k3, n3⟩, -, X3, ⟨Lc3, hQ3, l3, y3, z3⟩, st3⟩ := Jvm.LawKit.callS X2 hx (y := (⟨"com/example/ms2rank/ms2rank/candidate/UnpackerNumberPinLaw", "term", "([BIIJ)J"⟩ : MethodName)) hown (mvT hZ (hw _ (List.mem_of_getElem? (i := 8) rfl))) (mvT hZ (hw _ (List.mem_of_getElem? (i := 9) rfl))) (mvT hZ (hw _ (List.mem_of_getElem? (i := 3) rfl))) (mvT hZ (hw _ (List.mem_of_getElem? (i := 10) rfl))) (by decide) (backOf (W := 2) (rm3 l Z a0 hw [] a1 (p2 + (2 : Int32)) p3 (16384 : Int64) (xk) (xn) (xs) h0 n0 Z0 P0 (by have := own_pk hxi (by omega) 2 (by decide); have t : (2 : Int32).toInt = 2 := (by decide); rw [t] at this; omega) hz1) hZ (hw _ (List.mem_of_getElem? (i := 10) rfl)) (hw _ (List.mem_of_getElem? (i := 3) rfl)) (by decide) (by decide)) (g := (mkF m 27 #[.val (.ref a1), .val (.int p2), .val (.int p3), .unset, .unset] [(.long (16384 : Int64)), (.int p3), (.int (p2 + (2 : Int32))), (.ref a1), (.long (r1 + r2))])) rfl (by rw [hml]; rfl) (argsL := [(.ref a1), (.int (p2 + (2 : Int32))), (.int p3), (.long (16384 : Int64))]) (rest := [(.long (r1 + r2))]) (lenOf pd_2_2 rfl) rfl (by show 2 * 0 + _ ≤ _; exact Nat.le_of_eq rfl) (hb hby d2_27) (fun _ _ => ⟨rfl, e2, (by decide : 0 + 0 ≤ _), (by decide : 0 + 0 ≤ _)⟩)
  dsimp only [Pt.U, Pt.locs, Pt.cells, Pt.slots] at X3 l3 y3 z3 st3 hQ3
  subst l3 y3 z3
  obtain ⟨r3, rfl, hr3, N3q, e3⟩ := hQ3
  have N3 := Fr.app N2 N3q
  refine own_st st3 ?_
  show own_Go p e below K (T3.setTop (mkF m 30 #[.val (.ref a1), .val (.int p2), .val (.int p3), .unset, .unset] [(.long r3), (.long (r1 + r2))]))
  refine own_st (fun t k => XS.ladd X3.here hx rfl (hb hby d2_30) rfl k) ?_
  show own_Go p e below K (T3.setTop (mkF m 31 #[.val (.ref a1), .val (.int p2), .val (.int p3), .unset, .unset] [(.long ((r1 + r2) + r3))]))
  refine own_st (fun t k => XS.aloadN X3.here hx rfl (hb hby d2_31) rfl rfl k) ?_
  show own_Go p e below K (T3.setTop (mkF m 32 #[.val (.ref a1), .val (.int p2), .val (.int p3), .unset, .unset] [(.ref a1), (.long ((r1 + r2) + r3))]))
  refine own_st (fun t k => XS.iloadN X3.here hx rfl (hb hby d2_32) rfl k) ?_
  show own_Go p e below K (T3.setTop (mkF m 33 #[.val (.ref a1), .val (.int p2), .val (.int p3), .unset, .unset] [(.int p2), (.ref a1), (.long ((r1 + r2) + r3))]))
  refine own_st (fun t k => XS.iconst X3.here hx rfl (hb hby d2_33) k) ?_
  show own_Go p e below K (T3.setTop (mkF m 34 #[.val (.ref a1), .val (.int p2), .val (.int p3), .unset, .unset] [(.int (3 : Int32)), (.int p2), (.ref a1), (.long ((r1 + r2) + r3))]))
  refine own_st (fun t k => XS.iadd X3.here hx rfl (hb hby d2_34) rfl k) ?_
  show own_Go p e below K (T3.setTop (mkF m 35 #[.val (.ref a1), .val (.int p2), .val (.int p3), .unset, .unset] [(.int (p2 + (3 : Int32))), (.ref a1), (.long ((r1 + r2) + r3))]))
  refine own_st (fun t k => XS.iloadN X3.here hx rfl (hb hby d2_35) rfl k) ?_
  show own_Go p e below K (T3.setTop (mkF m 36 #[.val (.ref a1), .val (.int p2), .val (.int p3), .unset, .unset] [(.int p3), (.int (p2 + (3 : Int32))), (.ref a1), (.long ((r1 + r2) + r3))]))
  refine own_st (X3.ldc2Long hx hown (mvT hZ (hw _ (List.mem_of_getElem? (i := 13) rfl))) (g := (mkF m 36 #[.val (.ref a1), .val (.int p2), .val (.int p3), .unset, .unset] [(.int p3), (.int (p2 + (3 : Int32))), (.ref a1), (.long ((r1 + r2) + r3))])) rfl (hb hby d2_36)) ?_
  show own_Go p e below K (T3.setTop (mkF m 39 #[.val (.ref a1), .val (.int p2), .val (.int p3), .unset, .unset] [(.long (2097152 : Int64)), (.int p3), (.int (p2 + (3 : Int32))), (.ref a1), (.long ((r1 + r2) + r3))]))
  obtain ⟨_, _, ⟨T4, L4, k4, n4⟩, -, X4, ⟨Lc4, hQ4, l4, y4, z4⟩, st4⟩ := Jvm.LawKit.callS X3 hx (y := (⟨"com/example/ms2rank/ms2rank/candidate/UnpackerNumberPinLaw", "term", "([BIIJ)J"⟩ : MethodName)) hown (mvT hZ (hw _ (List.mem_of_getElem? (i := 8) rfl))) (mvT hZ (hw _ (List.mem_of_getElem? (i := 9) rfl))) (mvT hZ (hw _ (List.mem_of_getElem? (i := 3) rfl))) (mvT hZ (hw _ (List.mem_of_getElem? (i := 10) rfl))) (by decide) (backOf (W := 2) (rm3 l Z a0 hw [] a1 (p2 + (3 : Int32)) p3 (2097152 : Int64) (xk) (xn) (xs) h0 n0 Z0 P0 (by have := own_pk hxi (by omega) 3 (by decide); have t : (3 : Int32).toInt = 3 := (by decide); rw [t] at this; omega) hz1) hZ (hw _ (List.mem_of_getElem? (i := 10) rfl)) (hw _ (List.mem_of_getElem? (i := 3) rfl)) (by decide) (by decide)) (g := (mkF m 39 #[.val (.ref a1), .val (.int p2), .val (.int p3), .unset, .unset] [(.long (2097152 : Int64)), (.int p3), (.int (p2 + (3 : Int32))), (.ref a1), (.long ((r1 + r2) + r3))])) rfl (by rw [hml]; rfl) (argsL := [(.ref a1), (.int (p2 + (3 : Int32))), (.int p3), (.long (2097152 : Int64))]) (rest := [(.long ((r1 + r2) + r3))]) (lenOf pd_2_2 rfl) rfl (by show 2 * 0 + _ ≤ _; exact Nat.le_of_eq rfl) (hb hby d2_39) (fun _ _ => ⟨rfl, e3, (by decide : 0 + 0 ≤ _), (by decide : 0 + 0 ≤ _)⟩)
  dsimp only [Pt.U, Pt.locs, Pt.cells, Pt.slots] at X4 l4 y4 z4 st4 hQ4
  subst l4 y4 z4
  obtain ⟨r4, rfl, hr4, N4q, e4⟩ := hQ4
  have N4 := Fr.app N3 N4q
  refine own_st st4 ?_
  show own_Go p e below K (T4.setTop (mkF m 42 #[.val (.ref a1), .val (.int p2), .val (.int p3), .unset, .unset] [(.long r4), (.long ((r1 + r2) + r3))]))
  refine own_st (fun t k => XS.ladd X4.here hx rfl (hb hby d2_42) rfl k) ?_
  show own_Go p e below K (T4.setTop (mkF m 43 #[.val (.ref a1), .val (.int p2), .val (.int p3), .unset, .unset] [(.long (((r1 + r2) + r3) + r4))]))
  refine own_st (fun t k => XS.aloadN X4.here hx rfl (hb hby d2_43) rfl rfl k) ?_
  show own_Go p e below K (T4.setTop (mkF m 44 #[.val (.ref a1), .val (.int p2), .val (.int p3), .unset, .unset] [(.ref a1), (.long (((r1 + r2) + r3) + r4))]))
  refine own_st (fun t k => XS.iloadN X4.here hx rfl (hb hby d2_44) rfl k) ?_
  show own_Go p e below K (T4.setTop (mkF m 45 #[.val (.ref a1), .val (.int p2), .val (.int p3), .unset, .unset] [(.int p2), (.ref a1), (.long (((r1 + r2) + r3) + r4))]))
  refine own_st (fun t k => XS.iconst X4.here hx rfl (hb hby d2_45) k) ?_
  show own_Go p e below K (T4.setTop (mkF m 46 #[.val (.ref a1), .val (.int p2), .val (.int p3), .unset, .unset] [(.int (4 : Int32)), (.int p2), (.ref a1), (.long (((r1 + r2) + r3) + r4))]))
  refine own_st (fun t k => XS.iadd X4.here hx rfl (hb hby d2_46) rfl k) ?_
  show own_Go p e below K (T4.setTop (mkF m 47 #[.val (.ref a1), .val (.int p2), .val (.int p3), .unset, .unset] [(.int (p2 + (4 : Int32))), (.ref a1), (.long (((r1 + r2) + r3) + r4))]))
  refine own_st (fun t k => XS.iloadN X4.here hx rfl (hb hby d2_47) rfl k) ?_
  show own_Go p e below K (T4.setTop (mkF m 48 #[.val (.ref a1), .val (.int p2), .val (.int p3), .unset, .unset] [(.int p3), (.int (p2 + (4 : Int32))), (.ref a1), (.long (((r1 + r2) + r3) + r4))]))
  refine own_st (X4.ldc2Long hx hown (mvT hZ (hw _ (List.mem_of_getElem? (i := 14) rfl))) (g := (mkF m 48 #[.val (.ref a1), .val (.int p2), .val (.int p3), .unset, .unset] [(.int p3), (.int (p2 + (4 : Int32))), (.ref a1), (.long (((r1 + r2) + r3) + r4))])) rfl (hb hby d2_48)) ?_
  show own_Go p e below K (T4.setTop (mkF m 51 #[.val (.ref a1), .val (.int p2), .val (.int p3), .unset, .unset] [(.long (268435456 : Int64)), (.int p3), (.int (p2 + (4 : Int32))), (.ref a1), (.long (((r1 + r2) + r3) + r4))]))
  obtain ⟨_, _, ⟨T5, L5, k5, n5⟩, -, X5, ⟨Lc5, hQ5, l5, y5, z5⟩, st5⟩ := Jvm.LawKit.callS X4 hx (y := (⟨"com/example/ms2rank/ms2rank/candidate/UnpackerNumberPinLaw", "term", "([BIIJ)J"⟩ : MethodName)) hown (mvT hZ (hw _ (List.mem_of_getElem? (i := 8) rfl))) (mvT hZ (hw _ (List.mem_of_getElem? (i := 9) rfl))) (mvT hZ (hw _ (List.mem_of_getElem? (i := 3) rfl))) (mvT hZ (hw _ (List.mem_of_getElem? (i := 10) rfl))) (by decide) (backOf (W := 2) (rm3 l Z a0 hw [] a1 (p2 + (4 : Int32)) p3 (268435456 : Int64) (xk) (xn) (xs) h0 n0 Z0 P0 (by have := own_pk hxi (by omega) 4 (by decide); have t : (4 : Int32).toInt = 4 := (by decide); rw [t] at this; omega) hz1) hZ (hw _ (List.mem_of_getElem? (i := 10) rfl)) (hw _ (List.mem_of_getElem? (i := 3) rfl)) (by decide) (by decide)) (g := (mkF m 51 #[.val (.ref a1), .val (.int p2), .val (.int p3), .unset, .unset] [(.long (268435456 : Int64)), (.int p3), (.int (p2 + (4 : Int32))), (.ref a1), (.long (((r1 + r2) + r3) + r4))])) rfl (by rw [hml]; rfl) (argsL := [(.ref a1), (.int (p2 + (4 : Int32))), (.int p3), (.long (268435456 : Int64))]) (rest := [(.long (((r1 + r2) + r3) + r4))]) (lenOf pd_2_2 rfl) rfl (by show 2 * 0 + _ ≤ _; exact Nat.le_of_eq rfl) (hb hby d2_51) (fun _ _ => ⟨rfl, e4, (by decide : 0 + 0 ≤ _), (by decide : 0 + 0 ≤ _)⟩)
  dsimp only [Pt.U, Pt.locs, Pt.cells, Pt.slots] at X5 l5 y5 z5 st5 hQ5
  subst l5 y5 z5
  obtain ⟨r5, rfl, hr5, N5q, e5⟩ := hQ5
  have N5 := Fr.app N4 N5q
  refine own_st st5 ?_
  show own_Go p e below K (T5.setTop (mkF m 54 #[.val (.ref a1), .val (.int p2), .val (.int p3), .unset, .unset] [(.long r5), (.long (((r1 + r2) + r3) + r4))]))
  refine own_st (fun t k => XS.ladd X5.here hx rfl (hb hby d2_54) rfl k) ?_
  show own_Go p e below K (T5.setTop (mkF m 55 #[.val (.ref a1), .val (.int p2), .val (.int p3), .unset, .unset] [(.long ((((r1 + r2) + r3) + r4) + r5))]))
  refine own_st (fun t k => XS.lstoreN X5.here hx rfl (hb hby d2_55) rfl (l' := #[.val (.ref a1), .val (.int p2), .val (.int p3), .val (.long ((((r1 + r2) + r3) + r4) + r5)), .second]) rfl k) ?_
  show own_Go p e below K (T5.setTop (mkF m 56 #[.val (.ref a1), .val (.int p2), .val (.int p3), .val (.long ((((r1 + r2) + r3) + r4) + r5)), .second] []))
  refine own_st (fun t k => XS.lloadN X5.here hx rfl (hb hby d2_56) rfl k) ?_
  show own_Go p e below K (T5.setTop (mkF m 57 #[.val (.ref a1), .val (.int p2), .val (.int p3), .val (.long ((((r1 + r2) + r3) + r4) + r5)), .second] [(.long ((((r1 + r2) + r3) + r4) + r5))]))
  refine own_st (fun t k => XS.l2i X5.here hx rfl (hb hby d2_57) rfl k) ?_
  show own_Go p e below K (T5.setTop (mkF m 58 #[.val (.ref a1), .val (.int p2), .val (.int p3), .val (.long ((((r1 + r2) + r3) + r4) + r5)), .second] [(.int (((((r1 + r2) + r3) + r4) + r5).toInt32))]))
  obtain ⟨fs, hr, hrun, hended, hW, hsame⟩ := X5.leave (v := some (.int (((((r1 + r2) + r3) + r4) + r5).toInt32))) (fun h => by rw [Bd.returns] at h; cases h)
  refine ⟨_, retI X5 hx Bd.returns (hb hby d2_58) hr, fin _ _ _ hrun hended ?_ ⟨⟨_, rfl⟩, hW, hsame.mono (by decide) (by decide)⟩⟩
  show Q2 Z a1 p2 p3 xk xn xs xi h0 n0 _ T5.heap _
  rw [e5]
  exact ⟨_, rfl, (by rw [hr1, hr2, hr3, hr4, hr5]; rfl), N5, rfl⟩
theorem d4_0 : decode prog_8_method_1_code 0 = .ok (.aload_n 0, 1) := by decide +kernel
theorem d4_1 : decode prog_8_method_1_code 1 = .ok (.invokespecial 1, 3) := by decide +kernel
theorem d4_4 : decode prog_8_method_1_code 4 = .ok (.aload_n 0, 1) := by decide +kernel
theorem d4_5 : decode prog_8_method_1_code 5 = .ok (.aload_n 1, 1) := by decide +kernel
theorem d4_6 : decode prog_8_method_1_code 6 = .ok (.putfield 7, 3) := by decide +kernel
theorem d4_9 : decode prog_8_method_1_code 9 = .ok (.return_, 1) := by decide +kernel
theorem pn_4 : plainName "com/example/ms2rank/ms2rank/candidate/Unpacker" = true := by first | (simp [plainName, overriddenIn]; done) | decide +kernel
theorem ef_4 (m : MethodId) (x0 : Addr) (x1 : Addr) : entryFrame m #[(.ref x0), (.ref x1)] 2 = mkF m 0 #[.val (.ref x0), .val (.ref x1)] [] := by first | (simp [entryFrame, mkF, argsToLocals, Value.category]; done) | rfl
def Q4 (Z : State) (a1 : Addr) (a2 : Addr) (h0 : Heap) (n0 : Nat) (v : Option Value) (h : Heap) (L : List Loc) : Prop := v = none ∧ Fr n0 L ∧ Keep h0 h [a1] ∧ (Exa Z h a1 "com/example/ms2rank/ms2rank/candidate/Unpacker") ∧ (Fld Z h a1 "com/example/ms2rank/ms2rank/candidate/Unpacker" "packed" "[B" (.ref a2)) ∧ (Fld Z h a1 "com/example/ms2rank/ms2rank/candidate/Unpacker" "at" "I" (.int (0 : Int32)))
set_option maxRecDepth 65536 in
set_option maxHeartbeats 40000000 in
theorem rm4 (l : Launch) (Z : State) (a0 : Array Value) (hw : ∀ d ∈ tables_1, d.before a0 Z = true) (ws : List Jvm.Cond) (a1 : Addr) (a2 : Addr) (h0 : Heap) (n0 : Nat) (Z0 : n0 ≤ h0.size) (g_a1 : n0 ≤ a1) (P0 : Exa Z h0 a1 "com/example/ms2rank/ms2rank/candidate/Unpacker") (P1 : Fld Z h0 a1 "com/example/ms2rank/ms2rank/candidate/Unpacker" "packed" "[B" .null) (P2 : Fld Z h0 a1 "com/example/ms2rank/ms2rank/candidate/Unpacker" "at" "I" (.int (0 : Int32))) :
    MetFree l (⟨"com/example/ms2rank/ms2rank/candidate/Unpacker", "<init>", "([B)V"⟩ : MethodName) (head1 (Jvm.Cond.code (⟨"com/example/ms2rank/ms2rank/candidate/Unpacker", "<init>", "([B)V"⟩ : MethodName) prog_8_method_1_code 2 none :: ws) ({ frames := 1, cells := 0, slots := 0, locals := 12 } : Room)) (fun a U => a = #[(.ref a1), (.ref a2)] ∧ Z.Warmed39 U.vm ∧ U.heap = h0) (fun _ _ _ _ _ => True) (fun _ U o U' => ∃ v L, o = .returned v ∧ Q4 Z a1 a2 h0 n0 v U'.heap L ∧ FrameEnd U o U' L ({ frames := 1, cells := 0, slots := 0, locals := 12 } : Room).cells ({ frames := 1, cells := 0, slots := 0, locals := 12 } : Room).slots) := by
  refine MetFree.of_bodySF (plainFor_of_name pn_4) hisR ?_
  intro p e s m args below meth c s₁ Bd hml0 hP hK
  obtain ⟨rfl, hZ, hh⟩ := hP
  have hx := Bd.exec
  have hby := Bd.bytes
  have hml : c.maxLocals = 2 := hml0
  have hown : s.vm.findClass "com/example/ms2rank/ms2rank/candidate/Unpacker" = some m.cls := findClass_of_methodNamed Bd.named
  have hnm := (name_of_methodNamed Bd.named Bd.method).1
  have X0 : Stand p l e ({ frames := 1, cells := 0, slots := 0, locals := 12 } : Room) s m #[(.ref a1), (.ref a2)] below meth c s₁ [] 0 0 := Stand.of_body Bd
  have e0 : s₁.heap = h0 := by rw [← hh, Bd.state]; rfl
  have N0 := Fr.nil n0
  suffices G0 : ∀ K : State → Prop, (∀ (n : State) (v : Option Value) (L : List Loc), n.status = .running → Ended n below (.returned v) → Q4 Z a1 a2 h0 n0 v n.heap L → FrameEnd s (.returned v) n L ({ frames := 1, cells := 0, slots := 0, locals := 12 } : Room).cells ({ frames := 1, cells := 0, slots := 0, locals := 12 } : Room).slots → K n) → own_Go p e below K (s₁.setTop (mkF m 0 #[.val (.ref a1), .val (.ref a2)] [])) by
    obtain ⟨t, st, o, a, b, v, L, e1, q, fe⟩ := G0 (fun n => ∃ o, n.status = .running ∧ Ended n below o ∧ ∃ v L, o = .returned v ∧ Q4 Z a1 a2 h0 n0 v n.heap L ∧ FrameEnd s o n L ({ frames := 1, cells := 0, slots := 0, locals := 12 } : Room).cells ({ frames := 1, cells := 0, slots := 0, locals := 12 } : Room).slots) (fun n v L a b q f => ⟨_, a, b, v, L, rfl, q, f⟩)
    exact ⟨t, o, castTop (ef_4 m a1 a2) st, a, b, v, L, e1, q, fe⟩
  intro K fin
  show own_Go p e below K (s₁.setTop (mkF m 0 #[.val (.ref a1), .val (.ref a2)] []))
  refine own_st (fun t k => XS.aloadN X0.here hx rfl (hb hby d4_0) rfl rfl k) ?_
  show own_Go p e below K (s₁.setTop (mkF m 1 #[.val (.ref a1), .val (.ref a2)] [(.ref a1)]))
  obtain ⟨T1, X1, e1, st1⟩ := initO X0 hx hZ hown (hw _ (List.mem_of_getElem? (i := 21) rfl)) (hw _ (List.mem_of_getElem? (i := 22) rfl)) (hw _ (List.mem_of_getElem? (i := 23) rfl)) e0 (g := (mkF m 1 #[.val (.ref a1), .val (.ref a2)] [(.ref a1)])) rfl (by rw [hml]; rfl) rfl (hb hby d4_1) (by decide) (W := 0) (by show 2 * 0 + _ ≤ _; exact Nat.le_of_eq rfl) (by decide)
  refine own_st st1 ?_
  show own_Go p e below K (T1.setTop (mkF m 4 #[.val (.ref a1), .val (.ref a2)] []))
  refine own_st (fun t k => XS.aloadN X1.here hx rfl (hb hby d4_4) rfl rfl k) ?_
  show own_Go p e below K (T1.setTop (mkF m 5 #[.val (.ref a1), .val (.ref a2)] [(.ref a1)]))
  refine own_st (fun t k => XS.aloadN X1.here hx rfl (hb hby d4_5) rfl rfl k) ?_
  show own_Go p e below K (T1.setTop (mkF m 6 #[.val (.ref a1), .val (.ref a2)] [(.ref a2), (.ref a1)]))
  obtain ⟨T2, h2, X2, e2, W2, st2⟩ := putF X1 hx hZ hown (host := "") (Or.inl (hw _ (List.mem_of_getElem? (i := 24) rfl))) Via.refl e1 P1 P0 (Or.inr ⟨(hw _ (List.mem_of_getElem? (i := 25) rfl)), rfl, hnm⟩) (hw _ (List.mem_of_getElem? (i := 16) rfl)) (ty := (.array .byte)) (by decide) rfl rfl (g := (mkF m 6 #[.val (.ref a1), .val (.ref a2)] [(.ref a2), (.ref a1)])) rfl rfl (hb hby d4_6)
  have fw2 : Fld Z h2 a1 "com/example/ms2rank/ms2rank/candidate/Unpacker" "packed" "[B" (.ref a2) := P1.same W2
  have f3 : Exa Z h2 a1 "com/example/ms2rank/ms2rank/candidate/Unpacker" := P0.wr W2
  have f4 : Fld Z h2 a1 "com/example/ms2rank/ms2rank/candidate/Unpacker" "at" "I" (.int (0 : Int32)) := P2.other W2 (Or.inr (slot_ne (Or.inl (hw _ (List.mem_of_getElem? (i := 32) rfl))) (Or.inr (hw _ (List.mem_of_getElem? (i := 25) rfl))) (by decide) (t := .int) (t' := (.array .byte)) (by decide) (by decide)))
  have N2 := Fr.snoc X2 N0 g_a1
  have Z2 : n0 ≤ h2.size := Nat.le_trans Z0 (Keep.of_wr W2).1
  have K2 : Keep h0 h2 [a1] := (Keep.refl h0 [a1]).wr W2 (Or.inl (List.mem_of_getElem? (i := 0) rfl))
  refine own_st st2 ?_
  show own_Go p e below K (T2.setTop (mkF m 9 #[.val (.ref a1), .val (.ref a2)] []))
  obtain ⟨fs, hr, hrun, hended, hW, hsame⟩ := X2.leave (v := none) (fun _ => rfl)
  refine ⟨_, X2.returnOut hx Bd.returns (hb hby d4_9) hr, fin _ _ _ hrun hended ?_ ⟨⟨_, rfl⟩, hW, hsame.mono (by decide) (by decide)⟩⟩
  show Q4 Z a1 a2 h0 n0 _ T2.heap _
  rw [e2]
  exact ⟨rfl, N2, K2, f3, fw2, f4⟩
theorem d6_0 : decode prog_8_method_3_code 0 = .ok (.iconst 0, 1) := by decide +kernel
theorem d6_1 : decode prog_8_method_3_code 1 = .ok (.istore_n 1, 1) := by decide +kernel
theorem d6_2 : decode prog_8_method_3_code 2 = .ok (.iconst 0, 1) := by decide +kernel
theorem d6_3 : decode prog_8_method_3_code 3 = .ok (.istore_n 2, 1) := by decide +kernel
theorem d6_4 : decode prog_8_method_3_code 4 = .ok (.aload_n 0, 1) := by decide +kernel
theorem d6_5 : decode prog_8_method_3_code 5 = .ok (.getfield 7, 3) := by decide +kernel
theorem d6_8 : decode prog_8_method_3_code 8 = .ok (.aload_n 0, 1) := by decide +kernel
theorem d6_9 : decode prog_8_method_3_code 9 = .ok (.dup, 1) := by decide +kernel
theorem d6_10 : decode prog_8_method_3_code 10 = .ok (.getfield 13, 3) := by decide +kernel
theorem d6_13 : decode prog_8_method_3_code 13 = .ok (.dup_x1, 1) := by decide +kernel
theorem d6_14 : decode prog_8_method_3_code 14 = .ok (.iconst 1, 1) := by decide +kernel
theorem d6_15 : decode prog_8_method_3_code 15 = .ok (.iadd, 1) := by decide +kernel
theorem d6_16 : decode prog_8_method_3_code 16 = .ok (.putfield 13, 3) := by decide +kernel
theorem d6_19 : decode prog_8_method_3_code 19 = .ok (.baload, 1) := by decide +kernel
theorem d6_20 : decode prog_8_method_3_code 20 = .ok (.istore_n 3, 1) := by decide +kernel
theorem d6_21 : decode prog_8_method_3_code 21 = .ok (.iload_n 1, 1) := by decide +kernel
theorem d6_22 : decode prog_8_method_3_code 22 = .ok (.iload_n 3, 1) := by decide +kernel
theorem d6_23 : decode prog_8_method_3_code 23 = .ok (.bipush 127, 2) := by decide +kernel
theorem d6_25 : decode prog_8_method_3_code 25 = .ok (.iand, 1) := by decide +kernel
theorem d6_26 : decode prog_8_method_3_code 26 = .ok (.iload_n 2, 1) := by decide +kernel
theorem d6_27 : decode prog_8_method_3_code 27 = .ok (.ishl, 1) := by decide +kernel
theorem d6_28 : decode prog_8_method_3_code 28 = .ok (.ior, 1) := by decide +kernel
theorem d6_29 : decode prog_8_method_3_code 29 = .ok (.istore_n 1, 1) := by decide +kernel
theorem d6_30 : decode prog_8_method_3_code 30 = .ok (.iinc 2 7, 3) := by decide +kernel
theorem d6_33 : decode prog_8_method_3_code 33 = .ok (.iload_n 3, 1) := by decide +kernel
theorem d6_34 : decode prog_8_method_3_code 34 = .ok (.ifCond .lt (-30), 3) := by decide +kernel
theorem d6_37 : decode prog_8_method_3_code 37 = .ok (.iload_n 1, 1) := by decide +kernel
theorem d6_38 : decode prog_8_method_3_code 38 = .ok (.ireturn, 1) := by decide +kernel
theorem pn_6 : plainName "com/example/ms2rank/ms2rank/candidate/Unpacker" = true := by first | (simp [plainName, overriddenIn]; done) | decide +kernel
theorem ef_6 (m : MethodId) (x0 : Addr) : entryFrame m #[(.ref x0)] 4 = mkF m 0 #[.val (.ref x0), .unset, .unset, .unset] [] := by first | (simp [entryFrame, mkF, argsToLocals, Value.category]; done) | rfl
def Q6 (Z : State) (a1 : Addr) (xp : Int32) (xa : Addr) (xk : ClassId) (xn : Int32) (xs : List Int32) (xi : Nat) (xe : Nat) (h0 : Heap) (n0 : Nat) (v : Option Value) (h : Heap) (L : List Loc) : Prop := ∃ (r : Int32) (xq : Int32), v = some (.int r) ∧ (r = own_acc xs (xe - xi) 0 0 xi) ∧ Fr n0 L ∧ Keep h0 h [a1] ∧ (Exa Z h a1 "com/example/ms2rank/ms2rank/candidate/Unpacker") ∧ (Fld Z h a1 "com/example/ms2rank/ms2rank/candidate/Unpacker" "packed" "[B" (.ref xa)) ∧ (Fld Z h a1 "com/example/ms2rank/ms2rank/candidate/Unpacker" "at" "I" (.int xq)) ∧ (xq.toInt = ((xe + 1 : Nat) : Int))
set_option maxRecDepth 65536 in
set_option maxHeartbeats 40000000 in
theorem rm6 (l : Launch) (Z : State) (a0 : Array Value) (hw : ∀ d ∈ tables_1, d.before a0 Z = true) (ws : List Jvm.Cond) (a1 : Addr) (xp : Int32) (xa : Addr) (xk : ClassId) (xn : Int32) (xs : List Int32) (xi : Nat) (xe : Nat) (h0 : Heap) (n0 : Nat) (Z0 : n0 ≤ h0.size) (g_a1 : n0 ≤ a1) (ne_a1_xa : a1 ≠ xa) (P0 : Exa Z h0 a1 "com/example/ms2rank/ms2rank/candidate/Unpacker") (P1 : Fld Z h0 a1 "com/example/ms2rank/ms2rank/candidate/Unpacker" "at" "I" (.int xp)) (P2 : Fld Z h0 a1 "com/example/ms2rank/ms2rank/candidate/Unpacker" "packed" "[B" (.ref xa)) (P3 : Arv Z h0 xa xk .byte xn (xs.map Value.int) (.int (0 : Int32))) (hxi : xp.toInt = (xi : Int)) (hie : xi ≤ xe) (hen : (xe : Int) < xn.toInt) (hng : ∀ j, xi ≤ j → j < xe → xs.getD j 0 < 0) (hnd : ¬ xs.getD xe 0 < 0) :
    MetFree l (⟨"com/example/ms2rank/ms2rank/candidate/Unpacker", "number", "()I"⟩ : MethodName) (head1 (Jvm.Cond.code (⟨"com/example/ms2rank/ms2rank/candidate/Unpacker", "number", "()I"⟩ : MethodName) prog_8_method_3_code 4 (some .int) :: ws) ({ frames := 0, cells := 0, slots := 0, locals := 0 } : Room)) (fun a U => a = #[(.ref a1)] ∧ Z.Warmed39 U.vm ∧ U.heap = h0) (fun _ _ _ _ _ => True) (fun _ U o U' => ∃ v L, o = .returned v ∧ Q6 Z a1 xp xa xk xn xs xi xe h0 n0 v U'.heap L ∧ FrameEnd U o U' L ({ frames := 0, cells := 0, slots := 0, locals := 0 } : Room).cells ({ frames := 0, cells := 0, slots := 0, locals := 0 } : Room).slots) := by
  refine MetFree.of_bodySF (plainFor_of_name pn_6) hisR ?_
  intro p e s m args below meth c s₁ Bd hml0 hP hK
  obtain ⟨rfl, hZ, hh⟩ := hP
  have hx := Bd.exec
  have hby := Bd.bytes
  have hml : c.maxLocals = 4 := hml0
  have hown : s.vm.findClass "com/example/ms2rank/ms2rank/candidate/Unpacker" = some m.cls := findClass_of_methodNamed Bd.named
  have hnm := (name_of_methodNamed Bd.named Bd.method).1
  have X0 : Stand p l e ({ frames := 0, cells := 0, slots := 0, locals := 0 } : Room) s m #[(.ref a1)] below meth c s₁ [] 0 0 := Stand.of_body Bd
  have e0 : s₁.heap = h0 := by rw [← hh, Bd.state]; rfl
  have N0 := Fr.nil n0
  suffices G0 : ∀ K : State → Prop, (∀ (n : State) (v : Option Value) (L : List Loc), n.status = .running → Ended n below (.returned v) → Q6 Z a1 xp xa xk xn xs xi xe h0 n0 v n.heap L → FrameEnd s (.returned v) n L ({ frames := 0, cells := 0, slots := 0, locals := 0 } : Room).cells ({ frames := 0, cells := 0, slots := 0, locals := 0 } : Room).slots → K n) → own_Go p e below K (s₁.setTop (mkF m 0 #[.val (.ref a1), .unset, .unset, .unset] [])) by
    obtain ⟨t, st, o, a, b, v, L, e1, q, fe⟩ := G0 (fun n => ∃ o, n.status = .running ∧ Ended n below o ∧ ∃ v L, o = .returned v ∧ Q6 Z a1 xp xa xk xn xs xi xe h0 n0 v n.heap L ∧ FrameEnd s o n L ({ frames := 0, cells := 0, slots := 0, locals := 0 } : Room).cells ({ frames := 0, cells := 0, slots := 0, locals := 0 } : Room).slots) (fun n v L a b q f => ⟨_, a, b, v, L, rfl, q, f⟩)
    exact ⟨t, o, castTop (ef_6 m a1) st, a, b, v, L, e1, q, fe⟩
  intro K fin
  show own_Go p e below K (s₁.setTop (mkF m 0 #[.val (.ref a1), .unset, .unset, .unset] []))
  refine own_st (fun t k => XS.iconst X0.here hx rfl (hb hby d6_0) k) ?_
  show own_Go p e below K (s₁.setTop (mkF m 1 #[.val (.ref a1), .unset, .unset, .unset] [(.int (0 : Int32))]))
  refine own_st (fun t k => XS.istoreN X0.here hx rfl (hb hby d6_1) rfl (l' := #[.val (.ref a1), .val (.int (0 : Int32)), .unset, .unset]) rfl k) ?_
  show own_Go p e below K (s₁.setTop (mkF m 2 #[.val (.ref a1), .val (.int (0 : Int32)), .unset, .unset] []))
  refine own_st (fun t k => XS.iconst X0.here hx rfl (hb hby d6_2) k) ?_
  show own_Go p e below K (s₁.setTop (mkF m 3 #[.val (.ref a1), .val (.int (0 : Int32)), .unset, .unset] [(.int (0 : Int32))]))
  refine own_st (fun t k => XS.istoreN X0.here hx rfl (hb hby d6_3) rfl (l' := #[.val (.ref a1), .val (.int (0 : Int32)), .val (.int (0 : Int32)), .unset]) rfl k) ?_
  show own_Go p e below K (s₁.setTop (mkF m 4 #[.val (.ref a1), .val (.int (0 : Int32)), .val (.int (0 : Int32)), .unset] []))
  refine own_st (fun t k => XS.aloadN X0.here hx rfl (hb hby d6_4) rfl rfl k) ?_
  show own_Go p e below K (s₁.setTop (mkF m 5 #[.val (.ref a1), .val (.int (0 : Int32)), .val (.int (0 : Int32)), .unset] [(.ref a1)]))
  obtain ⟨T1, X1, e1, st1⟩ := getF X0 hx hZ hown (host := "") (Or.inl (hw _ (List.mem_of_getElem? (i := 24) rfl))) Via.refl e0 P2 (g := (mkF m 5 #[.val (.ref a1), .val (.int (0 : Int32)), .val (.int (0 : Int32)), .unset] [(.ref a1)])) rfl rfl (hb hby d6_5)
  refine own_st st1 ?_
  show own_Go p e below K (T1.setTop (mkF m 8 #[.val (.ref a1), .val (.int (0 : Int32)), .val (.int (0 : Int32)), .unset] [(.ref xa)]))
  refine own_st (fun t k => XS.aloadN X1.here hx rfl (hb hby d6_8) rfl rfl k) ?_
  show own_Go p e below K (T1.setTop (mkF m 9 #[.val (.ref a1), .val (.int (0 : Int32)), .val (.int (0 : Int32)), .unset] [(.ref a1), (.ref xa)]))
  refine own_st (fun t k => XS.dup X1.here hx rfl (hb hby d6_9) rfl rfl k) ?_
  show own_Go p e below K (T1.setTop (mkF m 10 #[.val (.ref a1), .val (.int (0 : Int32)), .val (.int (0 : Int32)), .unset] [(.ref a1), (.ref a1), (.ref xa)]))
  obtain ⟨T2, X2, e2, st2⟩ := getF X1 hx hZ hown (host := "") (Or.inl (hw _ (List.mem_of_getElem? (i := 31) rfl))) Via.refl e1 P1 (g := (mkF m 10 #[.val (.ref a1), .val (.int (0 : Int32)), .val (.int (0 : Int32)), .unset] [(.ref a1), (.ref a1), (.ref xa)])) rfl rfl (hb hby d6_10)
  refine own_st st2 ?_
  show own_Go p e below K (T2.setTop (mkF m 13 #[.val (.ref a1), .val (.int (0 : Int32)), .val (.int (0 : Int32)), .unset] [(.int xp), (.ref a1), (.ref xa)]))
  refine own_st (fun t k => XS.dupX1 X2.here hx rfl (hb hby d6_13) rfl rfl rfl k) ?_
  show own_Go p e below K (T2.setTop (mkF m 14 #[.val (.ref a1), .val (.int (0 : Int32)), .val (.int (0 : Int32)), .unset] [(.int xp), (.ref a1), (.int xp), (.ref xa)]))
  refine own_st (fun t k => XS.iconst X2.here hx rfl (hb hby d6_14) k) ?_
  show own_Go p e below K (T2.setTop (mkF m 15 #[.val (.ref a1), .val (.int (0 : Int32)), .val (.int (0 : Int32)), .unset] [(.int (1 : Int32)), (.int xp), (.ref a1), (.int xp), (.ref xa)]))
  refine own_st (fun t k => XS.iadd X2.here hx rfl (hb hby d6_15) rfl k) ?_
  show own_Go p e below K (T2.setTop (mkF m 16 #[.val (.ref a1), .val (.int (0 : Int32)), .val (.int (0 : Int32)), .unset] [(.int (xp + (1 : Int32))), (.ref a1), (.int xp), (.ref xa)]))
  obtain ⟨T3, h3, X3, e3, W3, st3⟩ := putF X2 hx hZ hown (host := "") (Or.inl (hw _ (List.mem_of_getElem? (i := 31) rfl))) Via.refl e2 P1 P0 (Or.inl (hw _ (List.mem_of_getElem? (i := 32) rfl))) (hw _ (List.mem_of_getElem? (i := 16) rfl)) (ty := .int) (by decide) rfl rfl (g := (mkF m 16 #[.val (.ref a1), .val (.int (0 : Int32)), .val (.int (0 : Int32)), .unset] [(.int (xp + (1 : Int32))), (.ref a1), (.int xp), (.ref xa)])) rfl rfl (hb hby d6_16)
  have fw3 : Fld Z h3 a1 "com/example/ms2rank/ms2rank/candidate/Unpacker" "at" "I" (.int (xp + (1 : Int32))) := P1.same W3
  have f4 : Exa Z h3 a1 "com/example/ms2rank/ms2rank/candidate/Unpacker" := P0.wr W3
  have f5 : Fld Z h3 a1 "com/example/ms2rank/ms2rank/candidate/Unpacker" "packed" "[B" (.ref xa) := P2.other W3 (Or.inr (slot_ne (Or.inr (hw _ (List.mem_of_getElem? (i := 25) rfl))) (Or.inl (hw _ (List.mem_of_getElem? (i := 32) rfl))) (by decide) (t := (.array .byte)) (t' := .int) (by decide) (by decide)))
  have f6 : Arv Z h3 xa xk .byte xn (xs.map Value.int) (.int (0 : Int32)) := P3.other W3 (Ne.symm ne_a1_xa)
  have N3 := Fr.snoc X3 N0 g_a1
  have Z3 : n0 ≤ h3.size := Nat.le_trans Z0 (Keep.of_wr W3).1
  have K3 : Keep h0 h3 [a1] := (Keep.refl h0 [a1]).wr W3 (Or.inl (List.mem_of_getElem? (i := 0) rfl))
  refine own_st st3 ?_
  show own_Go p e below K (T3.setTop (mkF m 19 #[.val (.ref a1), .val (.int (0 : Int32)), .val (.int (0 : Int32)), .unset] [(.int xp), (.ref xa)]))
  obtain ⟨cl7, Ar7, qa7, Sa7, Ma7, Ha7, Ga7⟩ := id f6
  have hin7 : ¬ (xp < 0 ∨ cl7.slots.size ≤ (xp).toNatClampNeg) := inb_of Sa7 ⟨own_nlt (by rw [hxi]; show (0 : Int) ≤ _; omega), own_lt (by rw [hxi]; omega)⟩
  refine own_st (X3.baloadBytes hx (j := xp) (v := (.int (xs.getD (xp).toNatClampNeg 0))) (own_hat e3 Ar7.1) (State.isArrayOf_alike hZ.alike Ar7.2.1) Ar7.2.2 hin7 (Has.at Ha7 hin7 (own_atI xs _)) (g := (mkF m 19 #[.val (.ref a1), .val (.int (0 : Int32)), .val (.int (0 : Int32)), .unset] [(.int xp), (.ref xa)])) rfl rfl (hb hby d6_19)) ?_
  show own_Go p e below K (T3.setTop (mkF m 20 #[.val (.ref a1), .val (.int (0 : Int32)), .val (.int (0 : Int32)), .unset] [(.int (xs.getD (xp).toNatClampNeg 0))]))
  refine own_st (fun t k => XS.istoreN X3.here hx rfl (hb hby d6_20) rfl (l' := #[.val (.ref a1), .val (.int (0 : Int32)), .val (.int (0 : Int32)), .val (.int (xs.getD (xp).toNatClampNeg 0))]) rfl k) ?_
  show own_Go p e below K (T3.setTop (mkF m 21 #[.val (.ref a1), .val (.int (0 : Int32)), .val (.int (0 : Int32)), .val (.int (xs.getD (xp).toNatClampNeg 0))] []))
  refine own_st (fun t k => XS.iloadN X3.here hx rfl (hb hby d6_21) rfl k) ?_
  show own_Go p e below K (T3.setTop (mkF m 22 #[.val (.ref a1), .val (.int (0 : Int32)), .val (.int (0 : Int32)), .val (.int (xs.getD (xp).toNatClampNeg 0))] [(.int (0 : Int32))]))
  refine own_st (fun t k => XS.iloadN X3.here hx rfl (hb hby d6_22) rfl k) ?_
  show own_Go p e below K (T3.setTop (mkF m 23 #[.val (.ref a1), .val (.int (0 : Int32)), .val (.int (0 : Int32)), .val (.int (xs.getD (xp).toNatClampNeg 0))] [(.int (xs.getD (xp).toNatClampNeg 0)), (.int (0 : Int32))]))
  refine own_st (fun t k => XS.bipush X3.here hx rfl (hb hby d6_23) k) ?_
  show own_Go p e below K (T3.setTop (mkF m 25 #[.val (.ref a1), .val (.int (0 : Int32)), .val (.int (0 : Int32)), .val (.int (xs.getD (xp).toNatClampNeg 0))] [(.int (127 : Int32)), (.int (xs.getD (xp).toNatClampNeg 0)), (.int (0 : Int32))]))
  refine own_st (fun t k => XS.iand X3.here hx rfl (hb hby d6_25) rfl k) ?_
  show own_Go p e below K (T3.setTop (mkF m 26 #[.val (.ref a1), .val (.int (0 : Int32)), .val (.int (0 : Int32)), .val (.int (xs.getD (xp).toNatClampNeg 0))] [(.int ((xs.getD (xp).toNatClampNeg 0) &&& (127 : Int32))), (.int (0 : Int32))]))
  refine own_st (fun t k => XS.iloadN X3.here hx rfl (hb hby d6_26) rfl k) ?_
  show own_Go p e below K (T3.setTop (mkF m 27 #[.val (.ref a1), .val (.int (0 : Int32)), .val (.int (0 : Int32)), .val (.int (xs.getD (xp).toNatClampNeg 0))] [(.int (0 : Int32)), (.int ((xs.getD (xp).toNatClampNeg 0) &&& (127 : Int32))), (.int (0 : Int32))]))
  refine own_st (fun t k => XS.ishl X3.here hx rfl (hb hby d6_27) rfl k) ?_
  show own_Go p e below K (T3.setTop (mkF m 28 #[.val (.ref a1), .val (.int (0 : Int32)), .val (.int (0 : Int32)), .val (.int (xs.getD (xp).toNatClampNeg 0))] [(.int (((xs.getD (xp).toNatClampNeg 0) &&& (127 : Int32)) <<< ((0 : Int32) &&& 31))), (.int (0 : Int32))]))
  refine own_st (fun t k => XS.ior X3.here hx rfl (hb hby d6_28) rfl k) ?_
  show own_Go p e below K (T3.setTop (mkF m 29 #[.val (.ref a1), .val (.int (0 : Int32)), .val (.int (0 : Int32)), .val (.int (xs.getD (xp).toNatClampNeg 0))] [(.int ((0 : Int32) ||| (((xs.getD (xp).toNatClampNeg 0) &&& (127 : Int32)) <<< ((0 : Int32) &&& 31))))]))
  refine own_st (fun t k => XS.istoreN X3.here hx rfl (hb hby d6_29) rfl (l' := #[.val (.ref a1), .val (.int ((0 : Int32) ||| (((xs.getD (xp).toNatClampNeg 0) &&& (127 : Int32)) <<< ((0 : Int32) &&& 31)))), .val (.int (0 : Int32)), .val (.int (xs.getD (xp).toNatClampNeg 0))]) rfl k) ?_
  show own_Go p e below K (T3.setTop (mkF m 30 #[.val (.ref a1), .val (.int ((0 : Int32) ||| (((xs.getD (xp).toNatClampNeg 0) &&& (127 : Int32)) <<< ((0 : Int32) &&& 31)))), .val (.int (0 : Int32)), .val (.int (xs.getD (xp).toNatClampNeg 0))] []))
  refine own_st (fun t k => XS.iinc X3.here hx rfl (hb hby d6_30) rfl (l' := #[.val (.ref a1), .val (.int ((0 : Int32) ||| (((xs.getD (xp).toNatClampNeg 0) &&& (127 : Int32)) <<< ((0 : Int32) &&& 31)))), .val (.int ((0 : Int32) + (7 : Int32))), .val (.int (xs.getD (xp).toNatClampNeg 0))]) rfl k) ?_
  show own_Go p e below K (T3.setTop (mkF m 33 #[.val (.ref a1), .val (.int ((0 : Int32) ||| (((xs.getD (xp).toNatClampNeg 0) &&& (127 : Int32)) <<< ((0 : Int32) &&& 31)))), .val (.int ((0 : Int32) + (7 : Int32))), .val (.int (xs.getD (xp).toNatClampNeg 0))] []))
  refine own_st (fun t k => XS.iloadN X3.here hx rfl (hb hby d6_33) rfl k) ?_
  show own_Go p e below K (T3.setTop (mkF m 34 #[.val (.ref a1), .val (.int ((0 : Int32) ||| (((xs.getD (xp).toNatClampNeg 0) &&& (127 : Int32)) <<< ((0 : Int32) &&& 31)))), .val (.int ((0 : Int32) + (7 : Int32))), .val (.int (xs.getD (xp).toNatClampNeg 0))] [(.int (xs.getD (xp).toNatClampNeg 0))]))
  by_cases hc34 : (xs.getD (xp).toNatClampNeg 0) < (0 : Int32)
  · refine own_st (fun t k => XS.ifYes X3.here hx rfl (pc0 := 34) (pc' := 4) rfl (hb hby d6_34) rfl ((if0 _ _).trans (tlt hc34).1) (by decide) (by decide) k) ?_
    show own_Go p e below K (T3.setTop (mkF m 4 #[.val (.ref a1), .val (.int ((0 : Int32) ||| (((xs.getD (xp).toNatClampNeg 0) &&& (127 : Int32)) <<< ((0 : Int32) &&& 31)))), .val (.int ((0 : Int32) + (7 : Int32))), .val (.int (xs.getD (xp).toNatClampNeg 0))] []))
    have Lp4 : ∀ k : Nat, ∀ (T' : State) (locs' : List Loc) (h' : Heap) (vv : Int32) (sh : Int32) (bb : Int32) (ip : Int32) (ij : Nat) (X' : Stand p l e ({ frames := 0, cells := 0, slots := 0, locals := 0 } : Room) s m #[(.ref a1)] below meth c T' locs' 0 0) (e' : T'.heap = h') (N' : Fr n0 locs') (Z' : n0 ≤ h'.size) (K' : Keep h0 h' [a1]) (F0' : Exa Z h' a1 "com/example/ms2rank/ms2rank/candidate/Unpacker") (F1' : Fld Z h' a1 "com/example/ms2rank/ms2rank/candidate/Unpacker" "at" "I" (.int ip)) (F2' : Fld Z h' a1 "com/example/ms2rank/ms2rank/candidate/Unpacker" "packed" "[B" (.ref xa)) (F3' : Arv Z h' xa xk .byte xn (xs.map Value.int) (.int (0 : Int32))), (0 < k ∧ xe - ij < k ∧ ip.toInt = (ij : Int) ∧ xi ≤ ij ∧ ij ≤ xe ∧ own_acc xs (xe - ij) vv sh ij = own_acc xs (xe - xi) 0 0 xi) → own_Go p e below K (T'.setTop (mkF m 4 #[.val (.ref a1), .val (.int vv), .val (.int sh), .val (.int bb)] [])) := by
      intro k
      induction k with
      | zero =>
        intro T9 locs9 hh9 vv sh bb ip ij X9 e9 N9 Z9 K9 F9_0 F9_1 F9_2 F9_3 hi4
        exact absurd hi4.1 (Nat.lt_irrefl 0)
      | succ k ih =>
        intro T10 locs10 hh10 vv sh bb ip ij X10 e10 N10 Z10 K10 F10_0 F10_1 F10_2 F10_3 hi4
        obtain ⟨i1, i2, i3, i4, i5, i6⟩ := hi4
        refine own_st (fun t k => XS.aloadN X10.here hx rfl (hb hby d6_4) rfl rfl k) ?_
        show own_Go p e below K (T10.setTop (mkF m 5 #[.val (.ref a1), .val (.int vv), .val (.int sh), .val (.int bb)] [(.ref a1)]))
        obtain ⟨T11, X11, e11, st11⟩ := getF X10 hx hZ hown (host := "") (Or.inl (hw _ (List.mem_of_getElem? (i := 24) rfl))) Via.refl e10 F10_2 (g := (mkF m 5 #[.val (.ref a1), .val (.int vv), .val (.int sh), .val (.int bb)] [(.ref a1)])) rfl rfl (hb hby d6_5)
        refine own_st st11 ?_
        show own_Go p e below K (T11.setTop (mkF m 8 #[.val (.ref a1), .val (.int vv), .val (.int sh), .val (.int bb)] [(.ref xa)]))
        refine own_st (fun t k => XS.aloadN X11.here hx rfl (hb hby d6_8) rfl rfl k) ?_
        show own_Go p e below K (T11.setTop (mkF m 9 #[.val (.ref a1), .val (.int vv), .val (.int sh), .val (.int bb)] [(.ref a1), (.ref xa)]))
        refine own_st (fun t k => XS.dup X11.here hx rfl (hb hby d6_9) rfl rfl k) ?_
        show own_Go p e below K (T11.setTop (mkF m 10 #[.val (.ref a1), .val (.int vv), .val (.int sh), .val (.int bb)] [(.ref a1), (.ref a1), (.ref xa)]))
        obtain ⟨T12, X12, e12, st12⟩ := getF X11 hx hZ hown (host := "") (Or.inl (hw _ (List.mem_of_getElem? (i := 31) rfl))) Via.refl e11 F10_1 (g := (mkF m 10 #[.val (.ref a1), .val (.int vv), .val (.int sh), .val (.int bb)] [(.ref a1), (.ref a1), (.ref xa)])) rfl rfl (hb hby d6_10)
        refine own_st st12 ?_
        show own_Go p e below K (T12.setTop (mkF m 13 #[.val (.ref a1), .val (.int vv), .val (.int sh), .val (.int bb)] [(.int ip), (.ref a1), (.ref xa)]))
        refine own_st (fun t k => XS.dupX1 X12.here hx rfl (hb hby d6_13) rfl rfl rfl k) ?_
        show own_Go p e below K (T12.setTop (mkF m 14 #[.val (.ref a1), .val (.int vv), .val (.int sh), .val (.int bb)] [(.int ip), (.ref a1), (.int ip), (.ref xa)]))
        refine own_st (fun t k => XS.iconst X12.here hx rfl (hb hby d6_14) k) ?_
        show own_Go p e below K (T12.setTop (mkF m 15 #[.val (.ref a1), .val (.int vv), .val (.int sh), .val (.int bb)] [(.int (1 : Int32)), (.int ip), (.ref a1), (.int ip), (.ref xa)]))
        refine own_st (fun t k => XS.iadd X12.here hx rfl (hb hby d6_15) rfl k) ?_
        show own_Go p e below K (T12.setTop (mkF m 16 #[.val (.ref a1), .val (.int vv), .val (.int sh), .val (.int bb)] [(.int (ip + (1 : Int32))), (.ref a1), (.int ip), (.ref xa)]))
        obtain ⟨T13, h13, X13, e13, W13, st13⟩ := putF X12 hx hZ hown (host := "") (Or.inl (hw _ (List.mem_of_getElem? (i := 31) rfl))) Via.refl e12 F10_1 F10_0 (Or.inl (hw _ (List.mem_of_getElem? (i := 32) rfl))) (hw _ (List.mem_of_getElem? (i := 16) rfl)) (ty := .int) (by decide) rfl rfl (g := (mkF m 16 #[.val (.ref a1), .val (.int vv), .val (.int sh), .val (.int bb)] [(.int (ip + (1 : Int32))), (.ref a1), (.int ip), (.ref xa)])) rfl rfl (hb hby d6_16)
        have fw13 : Fld Z h13 a1 "com/example/ms2rank/ms2rank/candidate/Unpacker" "at" "I" (.int (ip + (1 : Int32))) := F10_1.same W13
        have f14 : Exa Z h13 a1 "com/example/ms2rank/ms2rank/candidate/Unpacker" := F10_0.wr W13
        have f15 : Fld Z h13 a1 "com/example/ms2rank/ms2rank/candidate/Unpacker" "packed" "[B" (.ref xa) := F10_2.other W13 (Or.inr (slot_ne (Or.inr (hw _ (List.mem_of_getElem? (i := 25) rfl))) (Or.inl (hw _ (List.mem_of_getElem? (i := 32) rfl))) (by decide) (t := (.array .byte)) (t' := .int) (by decide) (by decide)))
        have f16 : Arv Z h13 xa xk .byte xn (xs.map Value.int) (.int (0 : Int32)) := F10_3.other W13 (Ne.symm ne_a1_xa)
        have N13 := Fr.snoc X13 N10 g_a1
        have Z13 : n0 ≤ h13.size := Nat.le_trans Z10 (Keep.of_wr W13).1
        have K13 : Keep h0 h13 [a1] := K10.wr W13 (Or.inl (List.mem_of_getElem? (i := 0) rfl))
        refine own_st st13 ?_
        show own_Go p e below K (T13.setTop (mkF m 19 #[.val (.ref a1), .val (.int vv), .val (.int sh), .val (.int bb)] [(.int ip), (.ref xa)]))
        obtain ⟨cl17, Ar17, qa17, Sa17, Ma17, Ha17, Ga17⟩ := id f16
        have hin17 : ¬ (ip < 0 ∨ cl17.slots.size ≤ (ip).toNatClampNeg) := inb_of Sa17 ⟨own_nlt (by rw [i3]; show (0 : Int) ≤ _; omega), own_lt (by rw [i3]; omega)⟩
        refine own_st (X13.baloadBytes hx (j := ip) (v := (.int (xs.getD (ip).toNatClampNeg 0))) (own_hat e13 Ar17.1) (State.isArrayOf_alike hZ.alike Ar17.2.1) Ar17.2.2 hin17 (Has.at Ha17 hin17 (own_atI xs _)) (g := (mkF m 19 #[.val (.ref a1), .val (.int vv), .val (.int sh), .val (.int bb)] [(.int ip), (.ref xa)])) rfl rfl (hb hby d6_19)) ?_
        show own_Go p e below K (T13.setTop (mkF m 20 #[.val (.ref a1), .val (.int vv), .val (.int sh), .val (.int bb)] [(.int (xs.getD (ip).toNatClampNeg 0))]))
        refine own_st (fun t k => XS.istoreN X13.here hx rfl (hb hby d6_20) rfl (l' := #[.val (.ref a1), .val (.int vv), .val (.int sh), .val (.int (xs.getD (ip).toNatClampNeg 0))]) rfl k) ?_
        show own_Go p e below K (T13.setTop (mkF m 21 #[.val (.ref a1), .val (.int vv), .val (.int sh), .val (.int (xs.getD (ip).toNatClampNeg 0))] []))
        refine own_st (fun t k => XS.iloadN X13.here hx rfl (hb hby d6_21) rfl k) ?_
        show own_Go p e below K (T13.setTop (mkF m 22 #[.val (.ref a1), .val (.int vv), .val (.int sh), .val (.int (xs.getD (ip).toNatClampNeg 0))] [(.int vv)]))
        refine own_st (fun t k => XS.iloadN X13.here hx rfl (hb hby d6_22) rfl k) ?_
        show own_Go p e below K (T13.setTop (mkF m 23 #[.val (.ref a1), .val (.int vv), .val (.int sh), .val (.int (xs.getD (ip).toNatClampNeg 0))] [(.int (xs.getD (ip).toNatClampNeg 0)), (.int vv)]))
        refine own_st (fun t k => XS.bipush X13.here hx rfl (hb hby d6_23) k) ?_
        show own_Go p e below K (T13.setTop (mkF m 25 #[.val (.ref a1), .val (.int vv), .val (.int sh), .val (.int (xs.getD (ip).toNatClampNeg 0))] [(.int (127 : Int32)), (.int (xs.getD (ip).toNatClampNeg 0)), (.int vv)]))
        refine own_st (fun t k => XS.iand X13.here hx rfl (hb hby d6_25) rfl k) ?_
        show own_Go p e below K (T13.setTop (mkF m 26 #[.val (.ref a1), .val (.int vv), .val (.int sh), .val (.int (xs.getD (ip).toNatClampNeg 0))] [(.int ((xs.getD (ip).toNatClampNeg 0) &&& (127 : Int32))), (.int vv)]))
        refine own_st (fun t k => XS.iloadN X13.here hx rfl (hb hby d6_26) rfl k) ?_
        show own_Go p e below K (T13.setTop (mkF m 27 #[.val (.ref a1), .val (.int vv), .val (.int sh), .val (.int (xs.getD (ip).toNatClampNeg 0))] [(.int sh), (.int ((xs.getD (ip).toNatClampNeg 0) &&& (127 : Int32))), (.int vv)]))
        refine own_st (fun t k => XS.ishl X13.here hx rfl (hb hby d6_27) rfl k) ?_
        show own_Go p e below K (T13.setTop (mkF m 28 #[.val (.ref a1), .val (.int vv), .val (.int sh), .val (.int (xs.getD (ip).toNatClampNeg 0))] [(.int (((xs.getD (ip).toNatClampNeg 0) &&& (127 : Int32)) <<< (sh &&& 31))), (.int vv)]))
        refine own_st (fun t k => XS.ior X13.here hx rfl (hb hby d6_28) rfl k) ?_
        show own_Go p e below K (T13.setTop (mkF m 29 #[.val (.ref a1), .val (.int vv), .val (.int sh), .val (.int (xs.getD (ip).toNatClampNeg 0))] [(.int (vv ||| (((xs.getD (ip).toNatClampNeg 0) &&& (127 : Int32)) <<< (sh &&& 31))))]))
        refine own_st (fun t k => XS.istoreN X13.here hx rfl (hb hby d6_29) rfl (l' := #[.val (.ref a1), .val (.int (vv ||| (((xs.getD (ip).toNatClampNeg 0) &&& (127 : Int32)) <<< (sh &&& 31)))), .val (.int sh), .val (.int (xs.getD (ip).toNatClampNeg 0))]) rfl k) ?_
        show own_Go p e below K (T13.setTop (mkF m 30 #[.val (.ref a1), .val (.int (vv ||| (((xs.getD (ip).toNatClampNeg 0) &&& (127 : Int32)) <<< (sh &&& 31)))), .val (.int sh), .val (.int (xs.getD (ip).toNatClampNeg 0))] []))
        refine own_st (fun t k => XS.iinc X13.here hx rfl (hb hby d6_30) rfl (l' := #[.val (.ref a1), .val (.int (vv ||| (((xs.getD (ip).toNatClampNeg 0) &&& (127 : Int32)) <<< (sh &&& 31)))), .val (.int (sh + (7 : Int32))), .val (.int (xs.getD (ip).toNatClampNeg 0))]) rfl k) ?_
        show own_Go p e below K (T13.setTop (mkF m 33 #[.val (.ref a1), .val (.int (vv ||| (((xs.getD (ip).toNatClampNeg 0) &&& (127 : Int32)) <<< (sh &&& 31)))), .val (.int (sh + (7 : Int32))), .val (.int (xs.getD (ip).toNatClampNeg 0))] []))
        refine own_st (fun t k => XS.iloadN X13.here hx rfl (hb hby d6_33) rfl k) ?_
        show own_Go p e below K (T13.setTop (mkF m 34 #[.val (.ref a1), .val (.int (vv ||| (((xs.getD (ip).toNatClampNeg 0) &&& (127 : Int32)) <<< (sh &&& 31)))), .val (.int (sh + (7 : Int32))), .val (.int (xs.getD (ip).toNatClampNeg 0))] [(.int (xs.getD (ip).toNatClampNeg 0))]))
        by_cases hc34_1 : (xs.getD (ip).toNatClampNeg 0) < (0 : Int32)
        · refine own_st (fun t k => XS.ifYes X13.here hx rfl (pc0 := 34) (pc' := 4) rfl (hb hby d6_34) rfl ((if0 _ _).trans (tlt hc34_1).1) (by decide) (by decide) k) ?_
          show own_Go p e below K (T13.setTop (mkF m 4 #[.val (.ref a1), .val (.int (vv ||| (((xs.getD (ip).toNatClampNeg 0) &&& (127 : Int32)) <<< (sh &&& 31)))), .val (.int (sh + (7 : Int32))), .val (.int (xs.getD (ip).toNatClampNeg 0))] []))
          exact ih T13 _ _ ((vv ||| (((xs.getD (ip).toNatClampNeg 0) &&& (127 : Int32)) <<< (sh &&& 31)))) ((sh + (7 : Int32))) ((xs.getD (ip).toNatClampNeg 0)) ((ip + (1 : Int32))) (ij + 1) X13 e13 N13 Z13 K13 f14 fw13 f15 f16 ⟨by have := own_isnt i3 i5 hnd hc34_1; omega, by have := own_isnt i3 i5 hnd hc34_1; omega, own_p1 (n := xn) i3 (by omega), by omega, own_isnt i3 i5 hnd hc34_1, (own_nx i3 (own_isnt i3 i5 hnd hc34_1)).symm.trans i6⟩
        refine own_st (fun t k => XS.ifNo X13.here hx rfl (hb hby d6_34) rfl ((if0 _ _).trans (flt hc34_1).1) k) ?_
        show own_Go p e below K (T13.setTop (mkF m 37 #[.val (.ref a1), .val (.int (vv ||| (((xs.getD (ip).toNatClampNeg 0) &&& (127 : Int32)) <<< (sh &&& 31)))), .val (.int (sh + (7 : Int32))), .val (.int (xs.getD (ip).toNatClampNeg 0))] []))
        refine own_st (fun t k => XS.iloadN X13.here hx rfl (hb hby d6_37) rfl k) ?_
        show own_Go p e below K (T13.setTop (mkF m 38 #[.val (.ref a1), .val (.int (vv ||| (((xs.getD (ip).toNatClampNeg 0) &&& (127 : Int32)) <<< (sh &&& 31)))), .val (.int (sh + (7 : Int32))), .val (.int (xs.getD (ip).toNatClampNeg 0))] [(.int (vv ||| (((xs.getD (ip).toNatClampNeg 0) &&& (127 : Int32)) <<< (sh &&& 31))))]))
        obtain ⟨fs, hr, hrun, hended, hW, hsame⟩ := X13.leave (v := some (.int (vv ||| (((xs.getD (ip).toNatClampNeg 0) &&& (127 : Int32)) <<< (sh &&& 31))))) (fun h => by rw [Bd.returns] at h; cases h)
        refine ⟨_, retI X13 hx Bd.returns (hb hby d6_38) hr, fin _ _ _ hrun hended ?_ ⟨⟨_, rfl⟩, hW, hsame.mono (by decide) (by decide)⟩⟩
        show Q6 Z a1 xp xa xk xn xs xi xe h0 n0 _ T13.heap _
        rw [e13]
        exact ⟨_, (ip + (1 : Int32)), rfl, (by have e := own_is i3 i5 (fun j a b => hng j (by omega) b) hc34_1; subst e; exact (own_last i3).trans i6), N13, K13, f14, f15, fw13, (by have e := own_is i3 i5 (fun j a b => hng j (by omega) b) hc34_1; subst e; exact own_p1 i3 hen)⟩
    exact Lp4 (xe + 1) T3 _ _ (((0 : Int32) ||| (((xs.getD (xp).toNatClampNeg 0) &&& (127 : Int32)) <<< ((0 : Int32) &&& 31)))) (((0 : Int32) + (7 : Int32))) ((xs.getD (xp).toNatClampNeg 0)) ((xp + (1 : Int32))) (xi + 1) X3 e3 N3 Z3 K3 f4 fw3 f5 f6 ⟨Nat.succ_pos _, by omega, own_p1 (n := xn) hxi (by omega), by omega, by have := own_isnt hxi hie hnd hc34; omega, (own_nx hxi (own_isnt hxi hie hnd hc34)).symm⟩
  refine own_st (fun t k => XS.ifNo X3.here hx rfl (hb hby d6_34) rfl ((if0 _ _).trans (flt hc34).1) k) ?_
  show own_Go p e below K (T3.setTop (mkF m 37 #[.val (.ref a1), .val (.int ((0 : Int32) ||| (((xs.getD (xp).toNatClampNeg 0) &&& (127 : Int32)) <<< ((0 : Int32) &&& 31)))), .val (.int ((0 : Int32) + (7 : Int32))), .val (.int (xs.getD (xp).toNatClampNeg 0))] []))
  refine own_st (fun t k => XS.iloadN X3.here hx rfl (hb hby d6_37) rfl k) ?_
  show own_Go p e below K (T3.setTop (mkF m 38 #[.val (.ref a1), .val (.int ((0 : Int32) ||| (((xs.getD (xp).toNatClampNeg 0) &&& (127 : Int32)) <<< ((0 : Int32) &&& 31)))), .val (.int ((0 : Int32) + (7 : Int32))), .val (.int (xs.getD (xp).toNatClampNeg 0))] [(.int ((0 : Int32) ||| (((xs.getD (xp).toNatClampNeg 0) &&& (127 : Int32)) <<< ((0 : Int32) &&& 31))))]))
  obtain ⟨fs, hr, hrun, hended, hW, hsame⟩ := X3.leave (v := some (.int ((0 : Int32) ||| (((xs.getD (xp).toNatClampNeg 0) &&& (127 : Int32)) <<< ((0 : Int32) &&& 31))))) (fun h => by rw [Bd.returns] at h; cases h)
  refine ⟨_, retI X3 hx Bd.returns (hb hby d6_38) hr, fin _ _ _ hrun hended ?_ ⟨⟨_, rfl⟩, hW, hsame.mono (by decide) (by decide)⟩⟩
  show Q6 Z a1 xp xa xk xn xs xi xe h0 n0 _ T3.heap _
  rw [e3]
  exact ⟨_, (xp + (1 : Int32)), rfl, (by have e := own_is hxi hie hng hc34; subst e; exact own_last hxi), N3, K3, f4, f5, fw3, (by have e := own_is hxi hie hng hc34; subst e; exact own_p1 hxi hen)⟩
theorem d7_0 : decode prog_8_method_2_code 0 = .ok (.aload_n 0, 1) := by decide +kernel
theorem d7_1 : decode prog_8_method_2_code 1 = .ok (.getfield 13, 3) := by decide +kernel
theorem d7_4 : decode prog_8_method_2_code 4 = .ok (.aload_n 0, 1) := by decide +kernel
theorem d7_5 : decode prog_8_method_2_code 5 = .ok (.getfield 7, 3) := by decide +kernel
theorem d7_8 : decode prog_8_method_2_code 8 = .ok (.arraylength, 1) := by decide +kernel
theorem d7_9 : decode prog_8_method_2_code 9 = .ok (.if_icmp .ne 7, 3) := by decide +kernel
theorem d7_12 : decode prog_8_method_2_code 12 = .ok (.iconst 1, 1) := by decide +kernel
theorem d7_13 : decode prog_8_method_2_code 13 = .ok (.goto 4, 3) := by decide +kernel
theorem d7_16 : decode prog_8_method_2_code 16 = .ok (.iconst 0, 1) := by decide +kernel
theorem d7_17 : decode prog_8_method_2_code 17 = .ok (.ireturn, 1) := by decide +kernel
theorem pn_7 : plainName "com/example/ms2rank/ms2rank/candidate/Unpacker" = true := by first | (simp [plainName, overriddenIn]; done) | decide +kernel
theorem ef_7 (m : MethodId) (x0 : Addr) : entryFrame m #[(.ref x0)] 1 = mkF m 0 #[.val (.ref x0)] [] := by first | (simp [entryFrame, mkF, argsToLocals, Value.category]; done) | rfl
def Q7 (Z : State) (a1 : Addr) (xp : Int32) (xa : Addr) (xk : ClassId) (xn : Int32) (xs : List Int32) (h0 : Heap) (n0 : Nat) (v : Option Value) (h : Heap) (L : List Loc) : Prop := ∃ (r : Int32), v = some (.int r) ∧ (own_B (xp = xn) r) ∧ Fr n0 L ∧ h = h0
set_option maxRecDepth 65536 in
set_option maxHeartbeats 40000000 in
theorem rm7 (l : Launch) (Z : State) (a0 : Array Value) (hw : ∀ d ∈ tables_1, d.before a0 Z = true) (ws : List Jvm.Cond) (a1 : Addr) (xp : Int32) (xa : Addr) (xk : ClassId) (xn : Int32) (xs : List Int32) (h0 : Heap) (n0 : Nat) (Z0 : n0 ≤ h0.size) (P0 : Fld Z h0 a1 "com/example/ms2rank/ms2rank/candidate/Unpacker" "at" "I" (.int xp)) (P1 : Fld Z h0 a1 "com/example/ms2rank/ms2rank/candidate/Unpacker" "packed" "[B" (.ref xa)) (P2 : Arv Z h0 xa xk .byte xn (xs.map Value.int) (.int (0 : Int32))) :
    MetFree l (⟨"com/example/ms2rank/ms2rank/candidate/Unpacker", "atEnd", "()Z"⟩ : MethodName) (head1 (Jvm.Cond.code (⟨"com/example/ms2rank/ms2rank/candidate/Unpacker", "atEnd", "()Z"⟩ : MethodName) prog_8_method_2_code 1 (some .boolean) :: ws) ({ frames := 0, cells := 0, slots := 0, locals := 0 } : Room)) (fun a U => a = #[(.ref a1)] ∧ Z.Warmed39 U.vm ∧ U.heap = h0) (fun _ _ _ _ _ => True) (fun _ U o U' => ∃ v L, o = .returned v ∧ Q7 Z a1 xp xa xk xn xs h0 n0 v U'.heap L ∧ FrameEnd U o U' L ({ frames := 0, cells := 0, slots := 0, locals := 0 } : Room).cells ({ frames := 0, cells := 0, slots := 0, locals := 0 } : Room).slots) := by
  refine MetFree.of_bodySF (plainFor_of_name pn_7) hisR ?_
  intro p e s m args below meth c s₁ Bd hml0 hP hK
  obtain ⟨rfl, hZ, hh⟩ := hP
  have hx := Bd.exec
  have hby := Bd.bytes
  have hml : c.maxLocals = 1 := hml0
  have hown : s.vm.findClass "com/example/ms2rank/ms2rank/candidate/Unpacker" = some m.cls := findClass_of_methodNamed Bd.named
  have hnm := (name_of_methodNamed Bd.named Bd.method).1
  have X0 : Stand p l e ({ frames := 0, cells := 0, slots := 0, locals := 0 } : Room) s m #[(.ref a1)] below meth c s₁ [] 0 0 := Stand.of_body Bd
  have e0 : s₁.heap = h0 := by rw [← hh, Bd.state]; rfl
  have N0 := Fr.nil n0
  suffices G0 : ∀ K : State → Prop, (∀ (n : State) (v : Option Value) (L : List Loc), n.status = .running → Ended n below (.returned v) → Q7 Z a1 xp xa xk xn xs h0 n0 v n.heap L → FrameEnd s (.returned v) n L ({ frames := 0, cells := 0, slots := 0, locals := 0 } : Room).cells ({ frames := 0, cells := 0, slots := 0, locals := 0 } : Room).slots → K n) → own_Go p e below K (s₁.setTop (mkF m 0 #[.val (.ref a1)] [])) by
    obtain ⟨t, st, o, a, b, v, L, e1, q, fe⟩ := G0 (fun n => ∃ o, n.status = .running ∧ Ended n below o ∧ ∃ v L, o = .returned v ∧ Q7 Z a1 xp xa xk xn xs h0 n0 v n.heap L ∧ FrameEnd s o n L ({ frames := 0, cells := 0, slots := 0, locals := 0 } : Room).cells ({ frames := 0, cells := 0, slots := 0, locals := 0 } : Room).slots) (fun n v L a b q f => ⟨_, a, b, v, L, rfl, q, f⟩)
    exact ⟨t, o, castTop (ef_7 m a1) st, a, b, v, L, e1, q, fe⟩
  intro K fin
  show own_Go p e below K (s₁.setTop (mkF m 0 #[.val (.ref a1)] []))
  refine own_st (fun t k => XS.aloadN X0.here hx rfl (hb hby d7_0) rfl rfl k) ?_
  show own_Go p e below K (s₁.setTop (mkF m 1 #[.val (.ref a1)] [(.ref a1)]))
  obtain ⟨T1, X1, e1, st1⟩ := getF X0 hx hZ hown (host := "") (Or.inl (hw _ (List.mem_of_getElem? (i := 31) rfl))) Via.refl e0 P0 (g := (mkF m 1 #[.val (.ref a1)] [(.ref a1)])) rfl rfl (hb hby d7_1)
  refine own_st st1 ?_
  show own_Go p e below K (T1.setTop (mkF m 4 #[.val (.ref a1)] [(.int xp)]))
  refine own_st (fun t k => XS.aloadN X1.here hx rfl (hb hby d7_4) rfl rfl k) ?_
  show own_Go p e below K (T1.setTop (mkF m 5 #[.val (.ref a1)] [(.ref a1), (.int xp)]))
  obtain ⟨T2, X2, e2, st2⟩ := getF X1 hx hZ hown (host := "") (Or.inl (hw _ (List.mem_of_getElem? (i := 24) rfl))) Via.refl e1 P1 (g := (mkF m 5 #[.val (.ref a1)] [(.ref a1), (.int xp)])) rfl rfl (hb hby d7_5)
  refine own_st st2 ?_
  show own_Go p e below K (T2.setTop (mkF m 8 #[.val (.ref a1)] [(.ref xa), (.int xp)]))
  obtain ⟨cl3, Ar3, -, Sa3, Ma3, -, -⟩ := id P2
  refine own_st (X2.arraylength hx (own_hat e2 Ar3.1) (State.isArrayOf_alike hZ.alike Ar3.2.1) (g := (mkF m 8 #[.val (.ref a1)] [(.ref xa), (.int xp)])) rfl rfl (hb hby d7_8)) ?_
  rw [len_of Sa3 Ma3]
  show own_Go p e below K (T2.setTop (mkF m 9 #[.val (.ref a1)] [(.int xn), (.int xp)]))
  by_cases hc9 : xp = xn
  · refine own_st (fun t k => XS.icmpNo X2.here hx rfl (hb hby d7_9) rfl (teq hc9).2 k) ?_
    show own_Go p e below K (T2.setTop (mkF m 12 #[.val (.ref a1)] []))
    refine own_st (fun t k => XS.iconst X2.here hx rfl (hb hby d7_12) k) ?_
    show own_Go p e below K (T2.setTop (mkF m 13 #[.val (.ref a1)] [(.int (1 : Int32))]))
    refine own_st (fun t k => XS.goto X2.here hx rfl (pc0 := 13) (pc' := 17) rfl (hb hby d7_13) (by decide) (by decide) k) ?_
    show own_Go p e below K (T2.setTop (mkF m 17 #[.val (.ref a1)] [(.int (1 : Int32))]))
    obtain ⟨fs, hr, hrun, hended, hW, hsame⟩ := X2.leave (v := some (.int (nar .boolean (1 : Int32)))) (fun h => by rw [Bd.returns] at h; cases h)
    refine ⟨_, retN X2 hx (t := .boolean) Bd.returns (by simp) (hb hby d7_17) hr, fin _ _ _ hrun hended ?_ ⟨⟨_, rfl⟩, hW, hsame.mono (by decide) (by decide)⟩⟩
    show Q7 Z a1 xp xa xk xn xs h0 n0 _ T2.heap _
    rw [e2]
    exact ⟨_, rfl, (own_B.yes (by decide) hc9), N0, rfl⟩
  refine own_st (fun t k => XS.icmpYes X2.here hx rfl (pc0 := 9) (pc' := 16) rfl (hb hby d7_9) rfl (feq hc9).2 (by decide) (by decide) k) ?_
  show own_Go p e below K (T2.setTop (mkF m 16 #[.val (.ref a1)] []))
  refine own_st (fun t k => XS.iconst X2.here hx rfl (hb hby d7_16) k) ?_
  show own_Go p e below K (T2.setTop (mkF m 17 #[.val (.ref a1)] [(.int (0 : Int32))]))
  obtain ⟨fs, hr, hrun, hended, hW, hsame⟩ := X2.leave (v := some (.int (nar .boolean (0 : Int32)))) (fun h => by rw [Bd.returns] at h; cases h)
  refine ⟨_, retN X2 hx (t := .boolean) Bd.returns (by simp) (hb hby d7_17) hr, fin _ _ _ hrun hended ?_ ⟨⟨_, rfl⟩, hW, hsame.mono (by decide) (by decide)⟩⟩
  show Q7 Z a1 xp xa xk xn xs h0 n0 _ T2.heap _
  rw [e2]
  exact ⟨_, rfl, (own_B.no (by decide) hc9), N0, rfl⟩
theorem pn_0 : plainName "com/example/ms2rank/ms2rank/candidate/UnpackerNumberPinLaw" = true := by first | (simp [plainName, overriddenIn]; done) | decide +kernel
theorem pd_0_0 : parseMethodDescriptor "([BI)I" = some ⟨[(.array .byte), .int], some .int⟩ := by decide +kernel
theorem pd_0_1 : parseMethodDescriptor "([BII)I" = some ⟨[(.array .byte), .int, .int], some .int⟩ := by decide +kernel
theorem pd_0_3 : parseMethodDescriptor "([B)V" = some ⟨[(.array .byte)], none⟩ := by decide +kernel
theorem pd_0_5 : parseMethodDescriptor "()I" = some ⟨[], some .int⟩ := by decide +kernel
theorem pd_0_6 : parseMethodDescriptor "()Z" = some ⟨[], some .boolean⟩ := by decide +kernel
theorem ef_0 (m : MethodId) (x0 : Int32) (x1 : Int32) (x2 : Int32) (x3 : Int32) (x4 : Int32) (x5 : Int32) : entryFrame m #[(.int x0), (.int x1), (.int x2), (.int x3), (.int x4), (.int x5)] maxLocals = mkF m 0 #[.val (.int x0), .val (.int x1), .val (.int x2), .val (.int x3), .val (.int x4), .val (.int x5), .unset, .unset, .unset, .unset, .unset, .unset, .unset, .unset, .unset, .unset] [] := by first | (simp [entryFrame, mkF, argsToLocals, Value.category, maxLocals]; done) | rfl
def Q0 (Z : State) (p1 : Int32) (p2 : Int32) (p3 : Int32) (p4 : Int32) (p5 : Int32) (p6 : Int32) (h0 : Heap) (n0 : Nat) (v : Option Value) (h : Heap) (L : List Loc) : Prop := v = some (.int 1) ∧ Fr n0 L
set_option maxRecDepth 65536 in
set_option maxHeartbeats 40000000 in
theorem rm0 (l : Launch) (Z : State) (a0 : Array Value) (hw : ∀ d ∈ tables_1, d.before a0 Z = true) (ws : List Jvm.Cond) (p1 : Int32) (p2 : Int32) (p3 : Int32) (p4 : Int32) (p5 : Int32) (p6 : Int32) (h0 : Heap) (n0 : Nat) (Z0 : n0 ≤ h0.size)  :
    MetFree l x (head1 (Jvm.Cond.code x code maxLocals ret :: ws) room_1) (fun a U => a = #[(.int p1), (.int p2), (.int p3), (.int p4), (.int p5), (.int p6)] ∧ Z.Warmed39 U.vm ∧ U.heap = h0) (fun _ _ _ _ _ => True) (fun _ U o U' => ∃ v L, o = .returned v ∧ Q0 Z p1 p2 p3 p4 p5 p6 h0 n0 v U'.heap L ∧ FrameEnd U o U' L 2 8) := by
  refine MetFree.of_bodySF (plainFor_of_name pn_0) hisR ?_
  intro p e s m args below meth c s₁ Bd hml0 hP hK
  obtain ⟨rfl, hZ, hh⟩ := hP
  have hx := Bd.exec
  have hby := Bd.bytes
  have hml : c.maxLocals = 16 := hml0
  have hown : s.vm.findClass "com/example/ms2rank/ms2rank/candidate/UnpackerNumberPinLaw" = some m.cls := findClass_of_methodNamed Bd.named
  have hnm := (name_of_methodNamed Bd.named Bd.method).1
  have X0 : Stand p l e room_1 s m #[(.int p1), (.int p2), (.int p3), (.int p4), (.int p5), (.int p6)] below meth c s₁ [] 0 0 := Stand.of_body Bd
  have e0 : s₁.heap = h0 := by rw [← hh, Bd.state]; rfl
  have N0 := Fr.nil n0
  suffices G0 : ∀ K : State → Prop, (∀ (n : State) (v : Option Value) (L : List Loc), n.status = .running → Ended n below (.returned v) → Q0 Z p1 p2 p3 p4 p5 p6 h0 n0 v n.heap L → FrameEnd s (.returned v) n L 2 8 → K n) → own_Go p e below K (s₁.setTop (mkF m 0 #[.val (.int p1), .val (.int p2), .val (.int p3), .val (.int p4), .val (.int p5), .val (.int p6), .unset, .unset, .unset, .unset, .unset, .unset, .unset, .unset, .unset, .unset] [])) by
    obtain ⟨t, st, o, a, b, v, L, e1, q, fe⟩ := G0 (fun n => ∃ o, n.status = .running ∧ Ended n below o ∧ ∃ v L, o = .returned v ∧ Q0 Z p1 p2 p3 p4 p5 p6 h0 n0 v n.heap L ∧ FrameEnd s o n L 2 8) (fun n v L a b q f => ⟨_, a, b, v, L, rfl, q, f⟩)
    exact ⟨t, o, castTop (ef_0 m p1 p2 p3 p4 p5 p6) st, a, b, v, L, e1, q, fe⟩
  intro K fin
  show own_Go p e below K (s₁.setTop (mkF m 0 #[.val (.int p1), .val (.int p2), .val (.int p3), .val (.int p4), .val (.int p5), .val (.int p6), .unset, .unset, .unset, .unset, .unset, .unset, .unset, .unset, .unset, .unset] []))
  refine own_st (fun t k => XS.bipush X0.here hx rfl (hb hby at_0) k) ?_
  show own_Go p e below K (s₁.setTop (mkF m 2 #[.val (.int p1), .val (.int p2), .val (.int p3), .val (.int p4), .val (.int p5), .val (.int p6), .unset, .unset, .unset, .unset, .unset, .unset, .unset, .unset, .unset, .unset] [(.int (6 : Int32))]))
  obtain ⟨T1, h1, k1, X1, e1, E1, A1, st1⟩ := newP X0 hx hZ (hw _ (List.mem_of_getElem? (i := 0) rfl)) e0 (g := (mkF m 2 #[.val (.int p1), .val (.int p2), .val (.int p3), .val (.int p4), .val (.int p5), .val (.int p6), .unset, .unset, .unset, .unset, .unset, .unset, .unset, .unset, .unset, .unset] [(.int (6 : Int32))])) rfl (hb hby at_2) rfl (by decide) (cap := 6) (by decide) (by decide) (by decide) (by decide)
  obtain ⟨b1, g1⟩ : ∃ z, z = h0.size := ⟨_, rfl⟩
  rw [← g1] at A1 st1
  have g_b1 : n0 ≤ b1 := Nat.le_trans Z0 (Nat.le_of_eq g1.symm)
  have V1 : Arv Z h1 b1 k1 .byte (6 : Int32) [(.int (0 : Int32)), (.int (0 : Int32)), (.int (0 : Int32)), (.int (0 : Int32)), (.int (0 : Int32)), (.int (0 : Int32))] (.int (0 : Int32)) := (Arv.new A1 (by decide)).pad (pad_rep [] (.int (0 : Int32)) 6)
  have Z1 : n0 ≤ h1.size := Nat.le_trans Z0 E1.1
  refine own_st st1 ?_
  show own_Go p e below K (T1.setTop (mkF m 4 #[.val (.int p1), .val (.int p2), .val (.int p3), .val (.int p4), .val (.int p5), .val (.int p6), .unset, .unset, .unset, .unset, .unset, .unset, .unset, .unset, .unset, .unset] [(.ref b1)]))
  refine own_st (fun t k => XS.astore X1.here hx rfl (hb hby at_4) rfl rfl (l' := #[.val (.int p1), .val (.int p2), .val (.int p3), .val (.int p4), .val (.int p5), .val (.int p6), .val (.ref b1), .unset, .unset, .unset, .unset, .unset, .unset, .unset, .unset, .unset]) rfl k) ?_
  show own_Go p e below K (T1.setTop (mkF m 6 #[.val (.int p1), .val (.int p2), .val (.int p3), .val (.int p4), .val (.int p5), .val (.int p6), .val (.ref b1), .unset, .unset, .unset, .unset, .unset, .unset, .unset, .unset, .unset] []))
  refine own_st (fun t k => XS.aload X1.here hx rfl (hb hby at_6) rfl rfl k) ?_
  show own_Go p e below K (T1.setTop (mkF m 8 #[.val (.int p1), .val (.int p2), .val (.int p3), .val (.int p4), .val (.int p5), .val (.int p6), .val (.ref b1), .unset, .unset, .unset, .unset, .unset, .unset, .unset, .unset, .unset] [(.ref b1)]))
  refine own_st (fun t k => XS.iconst X1.here hx rfl (hb hby at_8) k) ?_
  show own_Go p e below K (T1.setTop (mkF m 9 #[.val (.int p1), .val (.int p2), .val (.int p3), .val (.int p4), .val (.int p5), .val (.int p6), .val (.ref b1), .unset, .unset, .unset, .unset, .unset, .unset, .unset, .unset, .unset] [(.int (0 : Int32)), (.ref b1)]))
  refine own_st (fun t k => XS.iloadN X1.here hx rfl (hb hby at_9) rfl k) ?_
  show own_Go p e below K (T1.setTop (mkF m 10 #[.val (.int p1), .val (.int p2), .val (.int p3), .val (.int p4), .val (.int p5), .val (.int p6), .val (.ref b1), .unset, .unset, .unset, .unset, .unset, .unset, .unset, .unset, .unset] [(.int p1), (.int (0 : Int32)), (.ref b1)]))
  refine own_st (fun t k => XS.i2b X1.here hx rfl (hb hby at_10) rfl k) ?_
  show own_Go p e below K (T1.setTop (mkF m 11 #[.val (.int p1), .val (.int p2), .val (.int p3), .val (.int p4), .val (.int p5), .val (.int p6), .val (.ref b1), .unset, .unset, .unset, .unset, .unset, .unset, .unset, .unset, .unset] [(.int (p1.toInt8.toInt32)), (.int (0 : Int32)), (.ref b1)]))
  obtain ⟨cl2, Ar2, qa2, Sa2, Ma2, Ha2, Ga2⟩ := id V1
  have hin2 : ¬ ((0 : Int32) < 0 ∨ cl2.slots.size ≤ ((0 : Int32)).toNatClampNeg) := inb_of Sa2 ⟨by decide, by decide⟩
  obtain ⟨T3, h3, X3, e3, W3, st3⟩ := stB X1 hx hZ e1 Ar2 (j := (0 : Int32)) hin2 (g := (mkF m 11 #[.val (.int p1), .val (.int p2), .val (.int p3), .val (.int p4), .val (.int p5), .val (.int p6), .val (.ref b1), .unset, .unset, .unset, .unset, .unset, .unset, .unset, .unset, .unset] [(.int (p1.toInt8.toInt32)), (.int (0 : Int32)), (.ref b1)])) rfl rfl (hb hby at_11)
  have id3 : nar .byte (p1.toInt8.toInt32) = (p1.toInt8.toInt32) := (own_nb _)
  rw [id3] at W3
  have V3 : Arv Z h3 b1 k1 .byte (6 : Int32) [(.int (p1.toInt8.toInt32)), (.int (0 : Int32)), (.int (0 : Int32)), (.int (0 : Int32)), (.int (0 : Int32)), (.int (0 : Int32))] (.int (0 : Int32)) := Arv.set Ar2 qa2 Sa2 Ma2 Ha2 Ga2 (own_fit id3) W3 0 rfl (Nat.le_of_ble_eq_true rfl)
  have N3 := Fr.snoc X3 N0 g_b1
  have Z3 : n0 ≤ h3.size := Nat.le_trans Z1 (Keep.of_wr W3).1
  refine own_st st3 ?_
  show own_Go p e below K (T3.setTop (mkF m 12 #[.val (.int p1), .val (.int p2), .val (.int p3), .val (.int p4), .val (.int p5), .val (.int p6), .val (.ref b1), .unset, .unset, .unset, .unset, .unset, .unset, .unset, .unset, .unset] []))
  refine own_st (fun t k => XS.aload X3.here hx rfl (hb hby at_12) rfl rfl k) ?_
  show own_Go p e below K (T3.setTop (mkF m 14 #[.val (.int p1), .val (.int p2), .val (.int p3), .val (.int p4), .val (.int p5), .val (.int p6), .val (.ref b1), .unset, .unset, .unset, .unset, .unset, .unset, .unset, .unset, .unset] [(.ref b1)]))
  refine own_st (fun t k => XS.iconst X3.here hx rfl (hb hby at_14) k) ?_
  show own_Go p e below K (T3.setTop (mkF m 15 #[.val (.int p1), .val (.int p2), .val (.int p3), .val (.int p4), .val (.int p5), .val (.int p6), .val (.ref b1), .unset, .unset, .unset, .unset, .unset, .unset, .unset, .unset, .unset] [(.int (1 : Int32)), (.ref b1)]))
  refine own_st (fun t k => XS.iloadN X3.here hx rfl (hb hby at_15) rfl k) ?_
  show own_Go p e below K (T3.setTop (mkF m 16 #[.val (.int p1), .val (.int p2), .val (.int p3), .val (.int p4), .val (.int p5), .val (.int p6), .val (.ref b1), .unset, .unset, .unset, .unset, .unset, .unset, .unset, .unset, .unset] [(.int p2), (.int (1 : Int32)), (.ref b1)]))
  refine own_st (fun t k => XS.i2b X3.here hx rfl (hb hby at_16) rfl k) ?_
  show own_Go p e below K (T3.setTop (mkF m 17 #[.val (.int p1), .val (.int p2), .val (.int p3), .val (.int p4), .val (.int p5), .val (.int p6), .val (.ref b1), .unset, .unset, .unset, .unset, .unset, .unset, .unset, .unset, .unset] [(.int (p2.toInt8.toInt32)), (.int (1 : Int32)), (.ref b1)]))
  obtain ⟨cl4, Ar4, qa4, Sa4, Ma4, Ha4, Ga4⟩ := id V3
  have hin4 : ¬ ((1 : Int32) < 0 ∨ cl4.slots.size ≤ ((1 : Int32)).toNatClampNeg) := inb_of Sa4 ⟨by decide, by decide⟩
  obtain ⟨T5, h5, X5, e5, W5, st5⟩ := stB X3 hx hZ e3 Ar4 (j := (1 : Int32)) hin4 (g := (mkF m 17 #[.val (.int p1), .val (.int p2), .val (.int p3), .val (.int p4), .val (.int p5), .val (.int p6), .val (.ref b1), .unset, .unset, .unset, .unset, .unset, .unset, .unset, .unset, .unset] [(.int (p2.toInt8.toInt32)), (.int (1 : Int32)), (.ref b1)])) rfl rfl (hb hby at_17)
  have id5 : nar .byte (p2.toInt8.toInt32) = (p2.toInt8.toInt32) := (own_nb _)
  rw [id5] at W5
  have V5 : Arv Z h5 b1 k1 .byte (6 : Int32) [(.int (p1.toInt8.toInt32)), (.int (p2.toInt8.toInt32)), (.int (0 : Int32)), (.int (0 : Int32)), (.int (0 : Int32)), (.int (0 : Int32))] (.int (0 : Int32)) := Arv.set Ar4 qa4 Sa4 Ma4 Ha4 Ga4 (own_fit id5) W5 1 rfl (Nat.le_of_ble_eq_true rfl)
  have N5 := Fr.snoc X5 N3 g_b1
  have Z5 : n0 ≤ h5.size := Nat.le_trans Z3 (Keep.of_wr W5).1
  refine own_st st5 ?_
  show own_Go p e below K (T5.setTop (mkF m 18 #[.val (.int p1), .val (.int p2), .val (.int p3), .val (.int p4), .val (.int p5), .val (.int p6), .val (.ref b1), .unset, .unset, .unset, .unset, .unset, .unset, .unset, .unset, .unset] []))
  refine own_st (fun t k => XS.aload X5.here hx rfl (hb hby at_18) rfl rfl k) ?_
  show own_Go p e below K (T5.setTop (mkF m 20 #[.val (.int p1), .val (.int p2), .val (.int p3), .val (.int p4), .val (.int p5), .val (.int p6), .val (.ref b1), .unset, .unset, .unset, .unset, .unset, .unset, .unset, .unset, .unset] [(.ref b1)]))
  refine own_st (fun t k => XS.iconst X5.here hx rfl (hb hby at_20) k) ?_
  show own_Go p e below K (T5.setTop (mkF m 21 #[.val (.int p1), .val (.int p2), .val (.int p3), .val (.int p4), .val (.int p5), .val (.int p6), .val (.ref b1), .unset, .unset, .unset, .unset, .unset, .unset, .unset, .unset, .unset] [(.int (2 : Int32)), (.ref b1)]))
  refine own_st (fun t k => XS.iloadN X5.here hx rfl (hb hby at_21) rfl k) ?_
  show own_Go p e below K (T5.setTop (mkF m 22 #[.val (.int p1), .val (.int p2), .val (.int p3), .val (.int p4), .val (.int p5), .val (.int p6), .val (.ref b1), .unset, .unset, .unset, .unset, .unset, .unset, .unset, .unset, .unset] [(.int p3), (.int (2 : Int32)), (.ref b1)]))
  refine own_st (fun t k => XS.i2b X5.here hx rfl (hb hby at_22) rfl k) ?_
  show own_Go p e below K (T5.setTop (mkF m 23 #[.val (.int p1), .val (.int p2), .val (.int p3), .val (.int p4), .val (.int p5), .val (.int p6), .val (.ref b1), .unset, .unset, .unset, .unset, .unset, .unset, .unset, .unset, .unset] [(.int (p3.toInt8.toInt32)), (.int (2 : Int32)), (.ref b1)]))
  obtain ⟨cl6, Ar6, qa6, Sa6, Ma6, Ha6, Ga6⟩ := id V5
  have hin6 : ¬ ((2 : Int32) < 0 ∨ cl6.slots.size ≤ ((2 : Int32)).toNatClampNeg) := inb_of Sa6 ⟨by decide, by decide⟩
  obtain ⟨T7, h7, X7, e7, W7, st7⟩ := stB X5 hx hZ e5 Ar6 (j := (2 : Int32)) hin6 (g := (mkF m 23 #[.val (.int p1), .val (.int p2), .val (.int p3), .val (.int p4), .val (.int p5), .val (.int p6), .val (.ref b1), .unset, .unset, .unset, .unset, .unset, .unset, .unset, .unset, .unset] [(.int (p3.toInt8.toInt32)), (.int (2 : Int32)), (.ref b1)])) rfl rfl (hb hby at_23)
  have id7 : nar .byte (p3.toInt8.toInt32) = (p3.toInt8.toInt32) := (own_nb _)
  rw [id7] at W7
  have V7 : Arv Z h7 b1 k1 .byte (6 : Int32) [(.int (p1.toInt8.toInt32)), (.int (p2.toInt8.toInt32)), (.int (p3.toInt8.toInt32)), (.int (0 : Int32)), (.int (0 : Int32)), (.int (0 : Int32))] (.int (0 : Int32)) := Arv.set Ar6 qa6 Sa6 Ma6 Ha6 Ga6 (own_fit id7) W7 2 rfl (Nat.le_of_ble_eq_true rfl)
  have N7 := Fr.snoc X7 N5 g_b1
  have Z7 : n0 ≤ h7.size := Nat.le_trans Z5 (Keep.of_wr W7).1
  refine own_st st7 ?_
  show own_Go p e below K (T7.setTop (mkF m 24 #[.val (.int p1), .val (.int p2), .val (.int p3), .val (.int p4), .val (.int p5), .val (.int p6), .val (.ref b1), .unset, .unset, .unset, .unset, .unset, .unset, .unset, .unset, .unset] []))
  refine own_st (fun t k => XS.aload X7.here hx rfl (hb hby at_24) rfl rfl k) ?_
  show own_Go p e below K (T7.setTop (mkF m 26 #[.val (.int p1), .val (.int p2), .val (.int p3), .val (.int p4), .val (.int p5), .val (.int p6), .val (.ref b1), .unset, .unset, .unset, .unset, .unset, .unset, .unset, .unset, .unset] [(.ref b1)]))
  refine own_st (fun t k => XS.iconst X7.here hx rfl (hb hby at_26) k) ?_
  show own_Go p e below K (T7.setTop (mkF m 27 #[.val (.int p1), .val (.int p2), .val (.int p3), .val (.int p4), .val (.int p5), .val (.int p6), .val (.ref b1), .unset, .unset, .unset, .unset, .unset, .unset, .unset, .unset, .unset] [(.int (3 : Int32)), (.ref b1)]))
  refine own_st (fun t k => XS.iloadN X7.here hx rfl (hb hby at_27) rfl k) ?_
  show own_Go p e below K (T7.setTop (mkF m 28 #[.val (.int p1), .val (.int p2), .val (.int p3), .val (.int p4), .val (.int p5), .val (.int p6), .val (.ref b1), .unset, .unset, .unset, .unset, .unset, .unset, .unset, .unset, .unset] [(.int p4), (.int (3 : Int32)), (.ref b1)]))
  refine own_st (fun t k => XS.i2b X7.here hx rfl (hb hby at_28) rfl k) ?_
  show own_Go p e below K (T7.setTop (mkF m 29 #[.val (.int p1), .val (.int p2), .val (.int p3), .val (.int p4), .val (.int p5), .val (.int p6), .val (.ref b1), .unset, .unset, .unset, .unset, .unset, .unset, .unset, .unset, .unset] [(.int (p4.toInt8.toInt32)), (.int (3 : Int32)), (.ref b1)]))
  obtain ⟨cl8, Ar8, qa8, Sa8, Ma8, Ha8, Ga8⟩ := id V7
  have hin8 : ¬ ((3 : Int32) < 0 ∨ cl8.slots.size ≤ ((3 : Int32)).toNatClampNeg) := inb_of Sa8 ⟨by decide, by decide⟩
  obtain ⟨T9, h9, X9, e9, W9, st9⟩ := stB X7 hx hZ e7 Ar8 (j := (3 : Int32)) hin8 (g := (mkF m 29 #[.val (.int p1), .val (.int p2), .val (.int p3), .val (.int p4), .val (.int p5), .val (.int p6), .val (.ref b1), .unset, .unset, .unset, .unset, .unset, .unset, .unset, .unset, .unset] [(.int (p4.toInt8.toInt32)), (.int (3 : Int32)), (.ref b1)])) rfl rfl (hb hby at_29)
  have id9 : nar .byte (p4.toInt8.toInt32) = (p4.toInt8.toInt32) := (own_nb _)
  rw [id9] at W9
  have V9 : Arv Z h9 b1 k1 .byte (6 : Int32) [(.int (p1.toInt8.toInt32)), (.int (p2.toInt8.toInt32)), (.int (p3.toInt8.toInt32)), (.int (p4.toInt8.toInt32)), (.int (0 : Int32)), (.int (0 : Int32))] (.int (0 : Int32)) := Arv.set Ar8 qa8 Sa8 Ma8 Ha8 Ga8 (own_fit id9) W9 3 rfl (Nat.le_of_ble_eq_true rfl)
  have N9 := Fr.snoc X9 N7 g_b1
  have Z9 : n0 ≤ h9.size := Nat.le_trans Z7 (Keep.of_wr W9).1
  refine own_st st9 ?_
  show own_Go p e below K (T9.setTop (mkF m 30 #[.val (.int p1), .val (.int p2), .val (.int p3), .val (.int p4), .val (.int p5), .val (.int p6), .val (.ref b1), .unset, .unset, .unset, .unset, .unset, .unset, .unset, .unset, .unset] []))
  refine own_st (fun t k => XS.aload X9.here hx rfl (hb hby at_30) rfl rfl k) ?_
  show own_Go p e below K (T9.setTop (mkF m 32 #[.val (.int p1), .val (.int p2), .val (.int p3), .val (.int p4), .val (.int p5), .val (.int p6), .val (.ref b1), .unset, .unset, .unset, .unset, .unset, .unset, .unset, .unset, .unset] [(.ref b1)]))
  refine own_st (fun t k => XS.iconst X9.here hx rfl (hb hby at_32) k) ?_
  show own_Go p e below K (T9.setTop (mkF m 33 #[.val (.int p1), .val (.int p2), .val (.int p3), .val (.int p4), .val (.int p5), .val (.int p6), .val (.ref b1), .unset, .unset, .unset, .unset, .unset, .unset, .unset, .unset, .unset] [(.int (4 : Int32)), (.ref b1)]))
  refine own_st (fun t k => XS.iload X9.here hx rfl (hb hby at_33) rfl k) ?_
  show own_Go p e below K (T9.setTop (mkF m 35 #[.val (.int p1), .val (.int p2), .val (.int p3), .val (.int p4), .val (.int p5), .val (.int p6), .val (.ref b1), .unset, .unset, .unset, .unset, .unset, .unset, .unset, .unset, .unset] [(.int p5), (.int (4 : Int32)), (.ref b1)]))
  refine own_st (fun t k => XS.bipush X9.here hx rfl (hb hby at_35) k) ?_
  show own_Go p e below K (T9.setTop (mkF m 37 #[.val (.int p1), .val (.int p2), .val (.int p3), .val (.int p4), .val (.int p5), .val (.int p6), .val (.ref b1), .unset, .unset, .unset, .unset, .unset, .unset, .unset, .unset, .unset] [(.int (127 : Int32)), (.int p5), (.int (4 : Int32)), (.ref b1)]))
  refine own_st (fun t k => XS.iand X9.here hx rfl (hb hby at_37) rfl k) ?_
  show own_Go p e below K (T9.setTop (mkF m 38 #[.val (.int p1), .val (.int p2), .val (.int p3), .val (.int p4), .val (.int p5), .val (.int p6), .val (.ref b1), .unset, .unset, .unset, .unset, .unset, .unset, .unset, .unset, .unset] [(.int (p5 &&& (127 : Int32))), (.int (4 : Int32)), (.ref b1)]))
  refine own_st (fun t k => XS.i2b X9.here hx rfl (hb hby at_38) rfl k) ?_
  show own_Go p e below K (T9.setTop (mkF m 39 #[.val (.int p1), .val (.int p2), .val (.int p3), .val (.int p4), .val (.int p5), .val (.int p6), .val (.ref b1), .unset, .unset, .unset, .unset, .unset, .unset, .unset, .unset, .unset] [(.int ((p5 &&& (127 : Int32)).toInt8.toInt32)), (.int (4 : Int32)), (.ref b1)]))
  obtain ⟨cl10, Ar10, qa10, Sa10, Ma10, Ha10, Ga10⟩ := id V9
  have hin10 : ¬ ((4 : Int32) < 0 ∨ cl10.slots.size ≤ ((4 : Int32)).toNatClampNeg) := inb_of Sa10 ⟨by decide, by decide⟩
  obtain ⟨T11, h11, X11, e11, W11, st11⟩ := stB X9 hx hZ e9 Ar10 (j := (4 : Int32)) hin10 (g := (mkF m 39 #[.val (.int p1), .val (.int p2), .val (.int p3), .val (.int p4), .val (.int p5), .val (.int p6), .val (.ref b1), .unset, .unset, .unset, .unset, .unset, .unset, .unset, .unset, .unset] [(.int ((p5 &&& (127 : Int32)).toInt8.toInt32)), (.int (4 : Int32)), (.ref b1)])) rfl rfl (hb hby at_39)
  have id11 : nar .byte ((p5 &&& (127 : Int32)).toInt8.toInt32) = ((p5 &&& (127 : Int32)).toInt8.toInt32) := (own_nb _)
  rw [id11] at W11
  have V11 : Arv Z h11 b1 k1 .byte (6 : Int32) [(.int (p1.toInt8.toInt32)), (.int (p2.toInt8.toInt32)), (.int (p3.toInt8.toInt32)), (.int (p4.toInt8.toInt32)), (.int ((p5 &&& (127 : Int32)).toInt8.toInt32)), (.int (0 : Int32))] (.int (0 : Int32)) := Arv.set Ar10 qa10 Sa10 Ma10 Ha10 Ga10 (own_fit id11) W11 4 rfl (Nat.le_of_ble_eq_true rfl)
  have N11 := Fr.snoc X11 N9 g_b1
  have Z11 : n0 ≤ h11.size := Nat.le_trans Z9 (Keep.of_wr W11).1
  refine own_st st11 ?_
  show own_Go p e below K (T11.setTop (mkF m 40 #[.val (.int p1), .val (.int p2), .val (.int p3), .val (.int p4), .val (.int p5), .val (.int p6), .val (.ref b1), .unset, .unset, .unset, .unset, .unset, .unset, .unset, .unset, .unset] []))
  refine own_st (fun t k => XS.aload X11.here hx rfl (hb hby at_40) rfl rfl k) ?_
  show own_Go p e below K (T11.setTop (mkF m 42 #[.val (.int p1), .val (.int p2), .val (.int p3), .val (.int p4), .val (.int p5), .val (.int p6), .val (.ref b1), .unset, .unset, .unset, .unset, .unset, .unset, .unset, .unset, .unset] [(.ref b1)]))
  refine own_st (fun t k => XS.iconst X11.here hx rfl (hb hby at_42) k) ?_
  show own_Go p e below K (T11.setTop (mkF m 43 #[.val (.int p1), .val (.int p2), .val (.int p3), .val (.int p4), .val (.int p5), .val (.int p6), .val (.ref b1), .unset, .unset, .unset, .unset, .unset, .unset, .unset, .unset, .unset] [(.int (5 : Int32)), (.ref b1)]))
  refine own_st (fun t k => XS.iload X11.here hx rfl (hb hby at_43) rfl k) ?_
  show own_Go p e below K (T11.setTop (mkF m 45 #[.val (.int p1), .val (.int p2), .val (.int p3), .val (.int p4), .val (.int p5), .val (.int p6), .val (.ref b1), .unset, .unset, .unset, .unset, .unset, .unset, .unset, .unset, .unset] [(.int p6), (.int (5 : Int32)), (.ref b1)]))
  refine own_st (fun t k => XS.bipush X11.here hx rfl (hb hby at_45) k) ?_
  show own_Go p e below K (T11.setTop (mkF m 47 #[.val (.int p1), .val (.int p2), .val (.int p3), .val (.int p4), .val (.int p5), .val (.int p6), .val (.ref b1), .unset, .unset, .unset, .unset, .unset, .unset, .unset, .unset, .unset] [(.int (127 : Int32)), (.int p6), (.int (5 : Int32)), (.ref b1)]))
  refine own_st (fun t k => XS.iand X11.here hx rfl (hb hby at_47) rfl k) ?_
  show own_Go p e below K (T11.setTop (mkF m 48 #[.val (.int p1), .val (.int p2), .val (.int p3), .val (.int p4), .val (.int p5), .val (.int p6), .val (.ref b1), .unset, .unset, .unset, .unset, .unset, .unset, .unset, .unset, .unset] [(.int (p6 &&& (127 : Int32))), (.int (5 : Int32)), (.ref b1)]))
  refine own_st (fun t k => XS.i2b X11.here hx rfl (hb hby at_48) rfl k) ?_
  show own_Go p e below K (T11.setTop (mkF m 49 #[.val (.int p1), .val (.int p2), .val (.int p3), .val (.int p4), .val (.int p5), .val (.int p6), .val (.ref b1), .unset, .unset, .unset, .unset, .unset, .unset, .unset, .unset, .unset] [(.int ((p6 &&& (127 : Int32)).toInt8.toInt32)), (.int (5 : Int32)), (.ref b1)]))
  obtain ⟨cl12, Ar12, qa12, Sa12, Ma12, Ha12, Ga12⟩ := id V11
  have hin12 : ¬ ((5 : Int32) < 0 ∨ cl12.slots.size ≤ ((5 : Int32)).toNatClampNeg) := inb_of Sa12 ⟨by decide, by decide⟩
  obtain ⟨T13, h13, X13, e13, W13, st13⟩ := stB X11 hx hZ e11 Ar12 (j := (5 : Int32)) hin12 (g := (mkF m 49 #[.val (.int p1), .val (.int p2), .val (.int p3), .val (.int p4), .val (.int p5), .val (.int p6), .val (.ref b1), .unset, .unset, .unset, .unset, .unset, .unset, .unset, .unset, .unset] [(.int ((p6 &&& (127 : Int32)).toInt8.toInt32)), (.int (5 : Int32)), (.ref b1)])) rfl rfl (hb hby at_49)
  have id13 : nar .byte ((p6 &&& (127 : Int32)).toInt8.toInt32) = ((p6 &&& (127 : Int32)).toInt8.toInt32) := (own_nb _)
  rw [id13] at W13
  have V13 : Arv Z h13 b1 k1 .byte (6 : Int32) [(.int (p1.toInt8.toInt32)), (.int (p2.toInt8.toInt32)), (.int (p3.toInt8.toInt32)), (.int (p4.toInt8.toInt32)), (.int ((p5 &&& (127 : Int32)).toInt8.toInt32)), (.int ((p6 &&& (127 : Int32)).toInt8.toInt32))] (.int (0 : Int32)) := Arv.set Ar12 qa12 Sa12 Ma12 Ha12 Ga12 (own_fit id13) W13 5 rfl (Nat.le_of_ble_eq_true rfl)
  have N13 := Fr.snoc X13 N11 g_b1
  have Z13 : n0 ≤ h13.size := Nat.le_trans Z11 (Keep.of_wr W13).1
  refine own_st st13 ?_
  show own_Go p e below K (T13.setTop (mkF m 50 #[.val (.int p1), .val (.int p2), .val (.int p3), .val (.int p4), .val (.int p5), .val (.int p6), .val (.ref b1), .unset, .unset, .unset, .unset, .unset, .unset, .unset, .unset, .unset] []))
  obtain ⟨ys, hys⟩ : ∃ z : List Int32, z = [(p1.toInt8.toInt32), (p2.toInt8.toInt32), (p3.toInt8.toInt32), (p4.toInt8.toInt32), ((p5 &&& (127 : Int32)).toInt8.toInt32), ((p6 &&& (127 : Int32)).toInt8.toInt32)] := ⟨_, rfl⟩
  have V14 : Arv Z h13 b1 k1 .byte (6 : Int32) (ys.map Value.int) (.int (0 : Int32)) := by rw [hys]; exact V13
  have y4 : ¬ ys.getD 4 0 < 0 := by rw [hys]; exact own_pos _
  have y5 : ¬ ys.getD 5 0 < 0 := by rw [hys]; exact own_pos _
  obtain ⟨en1, -, A2, A3, A4⟩ := own_first 4 0 y4
  obtain ⟨en2, B1, B2, B3, B4⟩ : ∃ e, en1 + 1 ≤ e ∧ e ≤ 5 ∧ (∀ j, en1 + 1 ≤ j → j < e → ys.getD j 0 < 0) ∧ ¬ ys.getD e 0 < 0 := by
    obtain ⟨e, h1, h2, h3, h4⟩ := own_first (5 - (en1 + 1)) (en1 + 1) (by rw [show en1 + 1 + (5 - (en1 + 1)) = 5 from by omega]; exact y5)
    exact ⟨e, h1, by omega, h3, h4⟩
  refine own_st (fun t k => XS.aload X13.here hx rfl (hb hby at_50) rfl rfl k) ?_
  show own_Go p e below K (T13.setTop (mkF m 52 #[.val (.int p1), .val (.int p2), .val (.int p3), .val (.int p4), .val (.int p5), .val (.int p6), .val (.ref b1), .unset, .unset, .unset, .unset, .unset, .unset, .unset, .unset, .unset] [(.ref b1)]))
  refine own_st (fun t k => XS.iconst X13.here hx rfl (hb hby at_52) k) ?_
  show own_Go p e below K (T13.setTop (mkF m 53 #[.val (.int p1), .val (.int p2), .val (.int p3), .val (.int p4), .val (.int p5), .val (.int p6), .val (.ref b1), .unset, .unset, .unset, .unset, .unset, .unset, .unset, .unset, .unset] [(.int (0 : Int32)), (.ref b1)]))
  obtain ⟨_, _, ⟨T15, L15, k15, n15⟩, -, X15, ⟨Lc15, hQ15, l15, y15, z15⟩, st15⟩ := Jvm.LawKit.callS X13 hx (y := (⟨"com/example/ms2rank/ms2rank/candidate/UnpackerNumberPinLaw", "end", "([BI)I"⟩ : MethodName)) hown (mvT hZ (hw _ (List.mem_of_getElem? (i := 1) rfl))) (mvT hZ (hw _ (List.mem_of_getElem? (i := 2) rfl))) (mvT hZ (hw _ (List.mem_of_getElem? (i := 3) rfl))) (mvT hZ (hw _ (List.mem_of_getElem? (i := 4) rfl))) (by decide) (backOf (W := 0) (rm1 l Z a0 hw [] b1 (0 : Int32) (k1) ((6 : Int32)) (ys) (0) (en1) h13 n0 Z13 V14 (by decide) (Nat.zero_le _) (by show _ < (6 : Int); omega) A3 A4 (by omega) (by decide)) hZ (hw _ (List.mem_of_getElem? (i := 4) rfl)) (hw _ (List.mem_of_getElem? (i := 3) rfl)) (by decide) (by decide)) (g := (mkF m 53 #[.val (.int p1), .val (.int p2), .val (.int p3), .val (.int p4), .val (.int p5), .val (.int p6), .val (.ref b1), .unset, .unset, .unset, .unset, .unset, .unset, .unset, .unset, .unset] [(.int (0 : Int32)), (.ref b1)])) rfl (by rw [hml]; rfl) (argsL := [(.ref b1), (.int (0 : Int32))]) (rest := []) (lenOf pd_0_0 rfl) rfl (by show 2 * 0 + _ ≤ _; exact Nat.le_of_eq rfl) (hb hby at_53) (fun _ _ => ⟨rfl, e13, (by decide : 1 + 0 ≤ _), (by decide : 6 + 0 ≤ _)⟩)
  dsimp only [Pt.U, Pt.locs, Pt.cells, Pt.slots] at X15 l15 y15 z15 st15 hQ15
  subst l15 y15 z15
  obtain ⟨r15, rfl, hr15, N15q, e15⟩ := hQ15
  have N15 := Fr.app N13 N15q
  refine own_st st15 ?_
  show own_Go p e below K (T15.setTop (mkF m 56 #[.val (.int p1), .val (.int p2), .val (.int p3), .val (.int p4), .val (.int p5), .val (.int p6), .val (.ref b1), .unset, .unset, .unset, .unset, .unset, .unset, .unset, .unset, .unset] [(.int r15)]))
  refine own_st (fun t k => XS.istore X15.here hx rfl (hb hby at_56) rfl (l' := #[.val (.int p1), .val (.int p2), .val (.int p3), .val (.int p4), .val (.int p5), .val (.int p6), .val (.ref b1), .val (.int r15), .unset, .unset, .unset, .unset, .unset, .unset, .unset, .unset]) rfl k) ?_
  show own_Go p e below K (T15.setTop (mkF m 58 #[.val (.int p1), .val (.int p2), .val (.int p3), .val (.int p4), .val (.int p5), .val (.int p6), .val (.ref b1), .val (.int r15), .unset, .unset, .unset, .unset, .unset, .unset, .unset, .unset] []))
  refine own_st (fun t k => XS.aload X15.here hx rfl (hb hby at_58) rfl rfl k) ?_
  show own_Go p e below K (T15.setTop (mkF m 60 #[.val (.int p1), .val (.int p2), .val (.int p3), .val (.int p4), .val (.int p5), .val (.int p6), .val (.ref b1), .val (.int r15), .unset, .unset, .unset, .unset, .unset, .unset, .unset, .unset] [(.ref b1)]))
  refine own_st (fun t k => XS.iconst X15.here hx rfl (hb hby at_60) k) ?_
  show own_Go p e below K (T15.setTop (mkF m 61 #[.val (.int p1), .val (.int p2), .val (.int p3), .val (.int p4), .val (.int p5), .val (.int p6), .val (.ref b1), .val (.int r15), .unset, .unset, .unset, .unset, .unset, .unset, .unset, .unset] [(.int (0 : Int32)), (.ref b1)]))
  refine own_st (fun t k => XS.iload X15.here hx rfl (hb hby at_61) rfl k) ?_
  show own_Go p e below K (T15.setTop (mkF m 63 #[.val (.int p1), .val (.int p2), .val (.int p3), .val (.int p4), .val (.int p5), .val (.int p6), .val (.ref b1), .val (.int r15), .unset, .unset, .unset, .unset, .unset, .unset, .unset, .unset] [(.int r15), (.int (0 : Int32)), (.ref b1)]))
  obtain ⟨_, _, ⟨T16, L16, k16, n16⟩, -, X16, ⟨Lc16, hQ16, l16, y16, z16⟩, st16⟩ := Jvm.LawKit.callS X15 hx (y := (⟨"com/example/ms2rank/ms2rank/candidate/UnpackerNumberPinLaw", "expected", "([BII)I"⟩ : MethodName)) hown (mvT hZ (hw _ (List.mem_of_getElem? (i := 5) rfl))) (mvT hZ (hw _ (List.mem_of_getElem? (i := 6) rfl))) (mvT hZ (hw _ (List.mem_of_getElem? (i := 3) rfl))) (mvT hZ (hw _ (List.mem_of_getElem? (i := 7) rfl))) (by decide) (backOf (W := 0) (rm2 l Z a0 hw [] b1 (0 : Int32) r15 (k1) ((6 : Int32)) (ys) (0) h13 n0 Z13 V14 (by decide) (by decide) (by rw [hr15]; show _ < (6 : Int); omega)) hZ (hw _ (List.mem_of_getElem? (i := 7) rfl)) (hw _ (List.mem_of_getElem? (i := 3) rfl)) (by decide) (by decide)) (g := (mkF m 63 #[.val (.int p1), .val (.int p2), .val (.int p3), .val (.int p4), .val (.int p5), .val (.int p6), .val (.ref b1), .val (.int r15), .unset, .unset, .unset, .unset, .unset, .unset, .unset, .unset] [(.int r15), (.int (0 : Int32)), (.ref b1)])) rfl (by rw [hml]; rfl) (argsL := [(.ref b1), (.int (0 : Int32)), (.int r15)]) (rest := []) (lenOf pd_0_1 rfl) rfl (by show 2 * 0 + _ ≤ _; exact Nat.le_of_eq rfl) (hb hby at_63) (fun _ _ => ⟨rfl, e15, (by decide : 1 + 0 ≤ _), (by decide : 6 + 0 ≤ _)⟩)
  dsimp only [Pt.U, Pt.locs, Pt.cells, Pt.slots] at X16 l16 y16 z16 st16 hQ16
  subst l16 y16 z16
  obtain ⟨r16, rfl, hr16, N16q, e16⟩ := hQ16
  have N16 := Fr.app N15 N16q
  refine own_st st16 ?_
  show own_Go p e below K (T16.setTop (mkF m 66 #[.val (.int p1), .val (.int p2), .val (.int p3), .val (.int p4), .val (.int p5), .val (.int p6), .val (.ref b1), .val (.int r15), .unset, .unset, .unset, .unset, .unset, .unset, .unset, .unset] [(.int r16)]))
  refine own_st (fun t k => XS.istore X16.here hx rfl (hb hby at_66) rfl (l' := #[.val (.int p1), .val (.int p2), .val (.int p3), .val (.int p4), .val (.int p5), .val (.int p6), .val (.ref b1), .val (.int r15), .val (.int r16), .unset, .unset, .unset, .unset, .unset, .unset, .unset]) rfl k) ?_
  show own_Go p e below K (T16.setTop (mkF m 68 #[.val (.int p1), .val (.int p2), .val (.int p3), .val (.int p4), .val (.int p5), .val (.int p6), .val (.ref b1), .val (.int r15), .val (.int r16), .unset, .unset, .unset, .unset, .unset, .unset, .unset] []))
  refine own_st (fun t k => XS.aload X16.here hx rfl (hb hby at_68) rfl rfl k) ?_
  show own_Go p e below K (T16.setTop (mkF m 70 #[.val (.int p1), .val (.int p2), .val (.int p3), .val (.int p4), .val (.int p5), .val (.int p6), .val (.ref b1), .val (.int r15), .val (.int r16), .unset, .unset, .unset, .unset, .unset, .unset, .unset] [(.ref b1)]))
  refine own_st (fun t k => XS.iload X16.here hx rfl (hb hby at_70) rfl k) ?_
  show own_Go p e below K (T16.setTop (mkF m 72 #[.val (.int p1), .val (.int p2), .val (.int p3), .val (.int p4), .val (.int p5), .val (.int p6), .val (.ref b1), .val (.int r15), .val (.int r16), .unset, .unset, .unset, .unset, .unset, .unset, .unset] [(.int r15), (.ref b1)]))
  refine own_st (fun t k => XS.iconst X16.here hx rfl (hb hby at_72) k) ?_
  show own_Go p e below K (T16.setTop (mkF m 73 #[.val (.int p1), .val (.int p2), .val (.int p3), .val (.int p4), .val (.int p5), .val (.int p6), .val (.ref b1), .val (.int r15), .val (.int r16), .unset, .unset, .unset, .unset, .unset, .unset, .unset] [(.int (1 : Int32)), (.int r15), (.ref b1)]))
  refine own_st (fun t k => XS.iadd X16.here hx rfl (hb hby at_73) rfl k) ?_
  show own_Go p e below K (T16.setTop (mkF m 74 #[.val (.int p1), .val (.int p2), .val (.int p3), .val (.int p4), .val (.int p5), .val (.int p6), .val (.ref b1), .val (.int r15), .val (.int r16), .unset, .unset, .unset, .unset, .unset, .unset, .unset] [(.int (r15 + (1 : Int32))), (.ref b1)]))
  obtain ⟨_, _, ⟨T17, L17, k17, n17⟩, -, X17, ⟨Lc17, hQ17, l17, y17, z17⟩, st17⟩ := Jvm.LawKit.callS X16 hx (y := (⟨"com/example/ms2rank/ms2rank/candidate/UnpackerNumberPinLaw", "end", "([BI)I"⟩ : MethodName)) hown (mvT hZ (hw _ (List.mem_of_getElem? (i := 1) rfl))) (mvT hZ (hw _ (List.mem_of_getElem? (i := 2) rfl))) (mvT hZ (hw _ (List.mem_of_getElem? (i := 3) rfl))) (mvT hZ (hw _ (List.mem_of_getElem? (i := 4) rfl))) (by decide) (backOf (W := 0) (rm1 l Z a0 hw [] b1 (r15 + (1 : Int32)) (k1) ((6 : Int32)) (ys) (en1 + 1) (en2) h13 n0 Z13 V14 (own_p1 (n := 6) hr15 (by show _ < (6 : Int); omega)) B1 (by show _ < (6 : Int); omega) B3 B4 (by omega) (by omega)) hZ (hw _ (List.mem_of_getElem? (i := 4) rfl)) (hw _ (List.mem_of_getElem? (i := 3) rfl)) (by decide) (by decide)) (g := (mkF m 74 #[.val (.int p1), .val (.int p2), .val (.int p3), .val (.int p4), .val (.int p5), .val (.int p6), .val (.ref b1), .val (.int r15), .val (.int r16), .unset, .unset, .unset, .unset, .unset, .unset, .unset] [(.int (r15 + (1 : Int32))), (.ref b1)])) rfl (by rw [hml]; rfl) (argsL := [(.ref b1), (.int (r15 + (1 : Int32)))]) (rest := []) (lenOf pd_0_0 rfl) rfl (by show 2 * 0 + _ ≤ _; exact Nat.le_of_eq rfl) (hb hby at_74) (fun _ _ => ⟨rfl, e16, (by decide : 1 + 0 ≤ _), (by decide : 6 + 0 ≤ _)⟩)
  dsimp only [Pt.U, Pt.locs, Pt.cells, Pt.slots] at X17 l17 y17 z17 st17 hQ17
  subst l17 y17 z17
  obtain ⟨r17, rfl, hr17, N17q, e17⟩ := hQ17
  have N17 := Fr.app N16 N17q
  refine own_st st17 ?_
  show own_Go p e below K (T17.setTop (mkF m 77 #[.val (.int p1), .val (.int p2), .val (.int p3), .val (.int p4), .val (.int p5), .val (.int p6), .val (.ref b1), .val (.int r15), .val (.int r16), .unset, .unset, .unset, .unset, .unset, .unset, .unset] [(.int r17)]))
  refine own_st (fun t k => XS.istore X17.here hx rfl (hb hby at_77) rfl (l' := #[.val (.int p1), .val (.int p2), .val (.int p3), .val (.int p4), .val (.int p5), .val (.int p6), .val (.ref b1), .val (.int r15), .val (.int r16), .val (.int r17), .unset, .unset, .unset, .unset, .unset, .unset]) rfl k) ?_
  show own_Go p e below K (T17.setTop (mkF m 79 #[.val (.int p1), .val (.int p2), .val (.int p3), .val (.int p4), .val (.int p5), .val (.int p6), .val (.ref b1), .val (.int r15), .val (.int r16), .val (.int r17), .unset, .unset, .unset, .unset, .unset, .unset] []))
  refine own_st (fun t k => XS.aload X17.here hx rfl (hb hby at_79) rfl rfl k) ?_
  show own_Go p e below K (T17.setTop (mkF m 81 #[.val (.int p1), .val (.int p2), .val (.int p3), .val (.int p4), .val (.int p5), .val (.int p6), .val (.ref b1), .val (.int r15), .val (.int r16), .val (.int r17), .unset, .unset, .unset, .unset, .unset, .unset] [(.ref b1)]))
  refine own_st (fun t k => XS.iload X17.here hx rfl (hb hby at_81) rfl k) ?_
  show own_Go p e below K (T17.setTop (mkF m 83 #[.val (.int p1), .val (.int p2), .val (.int p3), .val (.int p4), .val (.int p5), .val (.int p6), .val (.ref b1), .val (.int r15), .val (.int r16), .val (.int r17), .unset, .unset, .unset, .unset, .unset, .unset] [(.int r15), (.ref b1)]))
  refine own_st (fun t k => XS.iconst X17.here hx rfl (hb hby at_83) k) ?_
  show own_Go p e below K (T17.setTop (mkF m 84 #[.val (.int p1), .val (.int p2), .val (.int p3), .val (.int p4), .val (.int p5), .val (.int p6), .val (.ref b1), .val (.int r15), .val (.int r16), .val (.int r17), .unset, .unset, .unset, .unset, .unset, .unset] [(.int (1 : Int32)), (.int r15), (.ref b1)]))
  refine own_st (fun t k => XS.iadd X17.here hx rfl (hb hby at_84) rfl k) ?_
  show own_Go p e below K (T17.setTop (mkF m 85 #[.val (.int p1), .val (.int p2), .val (.int p3), .val (.int p4), .val (.int p5), .val (.int p6), .val (.ref b1), .val (.int r15), .val (.int r16), .val (.int r17), .unset, .unset, .unset, .unset, .unset, .unset] [(.int (r15 + (1 : Int32))), (.ref b1)]))
  refine own_st (fun t k => XS.iload X17.here hx rfl (hb hby at_85) rfl k) ?_
  show own_Go p e below K (T17.setTop (mkF m 87 #[.val (.int p1), .val (.int p2), .val (.int p3), .val (.int p4), .val (.int p5), .val (.int p6), .val (.ref b1), .val (.int r15), .val (.int r16), .val (.int r17), .unset, .unset, .unset, .unset, .unset, .unset] [(.int r17), (.int (r15 + (1 : Int32))), (.ref b1)]))
  obtain ⟨_, _, ⟨T18, L18, k18, n18⟩, -, X18, ⟨Lc18, hQ18, l18, y18, z18⟩, st18⟩ := Jvm.LawKit.callS X17 hx (y := (⟨"com/example/ms2rank/ms2rank/candidate/UnpackerNumberPinLaw", "expected", "([BII)I"⟩ : MethodName)) hown (mvT hZ (hw _ (List.mem_of_getElem? (i := 5) rfl))) (mvT hZ (hw _ (List.mem_of_getElem? (i := 6) rfl))) (mvT hZ (hw _ (List.mem_of_getElem? (i := 3) rfl))) (mvT hZ (hw _ (List.mem_of_getElem? (i := 7) rfl))) (by decide) (backOf (W := 0) (rm2 l Z a0 hw [] b1 (r15 + (1 : Int32)) r17 (k1) ((6 : Int32)) (ys) (en1 + 1) h13 n0 Z13 V14 (own_p1 (n := 6) hr15 (by show _ < (6 : Int); omega)) (by omega) (by rw [hr17]; show _ < (6 : Int); omega)) hZ (hw _ (List.mem_of_getElem? (i := 7) rfl)) (hw _ (List.mem_of_getElem? (i := 3) rfl)) (by decide) (by decide)) (g := (mkF m 87 #[.val (.int p1), .val (.int p2), .val (.int p3), .val (.int p4), .val (.int p5), .val (.int p6), .val (.ref b1), .val (.int r15), .val (.int r16), .val (.int r17), .unset, .unset, .unset, .unset, .unset, .unset] [(.int r17), (.int (r15 + (1 : Int32))), (.ref b1)])) rfl (by rw [hml]; rfl) (argsL := [(.ref b1), (.int (r15 + (1 : Int32))), (.int r17)]) (rest := []) (lenOf pd_0_1 rfl) rfl (by show 2 * 0 + _ ≤ _; exact Nat.le_of_eq rfl) (hb hby at_87) (fun _ _ => ⟨rfl, e17, (by decide : 1 + 0 ≤ _), (by decide : 6 + 0 ≤ _)⟩)
  dsimp only [Pt.U, Pt.locs, Pt.cells, Pt.slots] at X18 l18 y18 z18 st18 hQ18
  subst l18 y18 z18
  obtain ⟨r18, rfl, hr18, N18q, e18⟩ := hQ18
  have N18 := Fr.app N17 N18q
  refine own_st st18 ?_
  show own_Go p e below K (T18.setTop (mkF m 90 #[.val (.int p1), .val (.int p2), .val (.int p3), .val (.int p4), .val (.int p5), .val (.int p6), .val (.ref b1), .val (.int r15), .val (.int r16), .val (.int r17), .unset, .unset, .unset, .unset, .unset, .unset] [(.int r18)]))
  refine own_st (fun t k => XS.istore X18.here hx rfl (hb hby at_90) rfl (l' := #[.val (.int p1), .val (.int p2), .val (.int p3), .val (.int p4), .val (.int p5), .val (.int p6), .val (.ref b1), .val (.int r15), .val (.int r16), .val (.int r17), .val (.int r18), .unset, .unset, .unset, .unset, .unset]) rfl k) ?_
  show own_Go p e below K (T18.setTop (mkF m 92 #[.val (.int p1), .val (.int p2), .val (.int p3), .val (.int p4), .val (.int p5), .val (.int p6), .val (.ref b1), .val (.int r15), .val (.int r16), .val (.int r17), .val (.int r18), .unset, .unset, .unset, .unset, .unset] []))
  obtain ⟨T19, h19, X19, e19, E19, A19, D19, -, st19⟩ := newO X18 hx hZ hown (hw _ (List.mem_of_getElem? (i := 15) rfl)) (hw _ (List.mem_of_getElem? (i := 16) rfl)) (hw _ (List.mem_of_getElem? (i := 17) rfl)) e18 (g := (mkF m 92 #[.val (.int p1), .val (.int p2), .val (.int p3), .val (.int p4), .val (.int p5), .val (.int p6), .val (.ref b1), .val (.int r15), .val (.int r16), .val (.int r17), .val (.int r18), .unset, .unset, .unset, .unset, .unset] [])) rfl (hb hby at_92) (by decide) (by decide)
  obtain ⟨b19, g19⟩ : ∃ z, z = h13.size := ⟨_, rfl⟩
  rw [← g19] at A19 D19 st19
  have ne_b1_b19 : b1 ≠ b19 := Nat.ne_of_lt (Nat.lt_of_lt_of_le V14.lt (Nat.le_of_eq g19.symm))
  have g_b19 : n0 ≤ b19 := Nat.le_trans Z13 (Nat.le_of_eq g19.symm)
  have f20 : Arv Z h19 b1 k1 .byte (6 : Int32) (ys.map Value.int) (.int (0 : Int32)) := V14.ext E19
  have f21 : Fld Z h19 b19 "com/example/ms2rank/ms2rank/candidate/Unpacker" "packed" "[B" .null := D19 (Or.inr (hw _ (List.mem_of_getElem? (i := 25) rfl))) (ty := (.array .byte)) (by decide)
  have f22 : Fld Z h19 b19 "com/example/ms2rank/ms2rank/candidate/Unpacker" "at" "I" (.int (0 : Int32)) := D19 (Or.inl (hw _ (List.mem_of_getElem? (i := 32) rfl))) (ty := .int) (by decide)
  have Z19 : n0 ≤ h19.size := Nat.le_trans Z13 E19.1
  refine own_st st19 ?_
  show own_Go p e below K (T19.setTop (mkF m 95 #[.val (.int p1), .val (.int p2), .val (.int p3), .val (.int p4), .val (.int p5), .val (.int p6), .val (.ref b1), .val (.int r15), .val (.int r16), .val (.int r17), .val (.int r18), .unset, .unset, .unset, .unset, .unset] [(.ref b19)]))
  refine own_st (fun t k => XS.dup X19.here hx rfl (hb hby at_95) rfl rfl k) ?_
  show own_Go p e below K (T19.setTop (mkF m 96 #[.val (.int p1), .val (.int p2), .val (.int p3), .val (.int p4), .val (.int p5), .val (.int p6), .val (.ref b1), .val (.int r15), .val (.int r16), .val (.int r17), .val (.int r18), .unset, .unset, .unset, .unset, .unset] [(.ref b19), (.ref b19)]))
  refine own_st (fun t k => XS.aload X19.here hx rfl (hb hby at_96) rfl rfl k) ?_
  show own_Go p e below K (T19.setTop (mkF m 98 #[.val (.int p1), .val (.int p2), .val (.int p3), .val (.int p4), .val (.int p5), .val (.int p6), .val (.ref b1), .val (.int r15), .val (.int r16), .val (.int r17), .val (.int r18), .unset, .unset, .unset, .unset, .unset] [(.ref b1), (.ref b19), (.ref b19)]))
  obtain ⟨_, _, ⟨T23, L23, k23, n23⟩, -, X23, ⟨Lc23, hQ23, l23, y23, z23⟩, st23⟩ := X19.specialBack hx (y := (⟨"com/example/ms2rank/ms2rank/candidate/Unpacker", "<init>", "([B)V"⟩ : MethodName)) rfl hown (mvT hZ (hw _ (List.mem_of_getElem? (i := 18) rfl))) (mvT hZ (hw _ (List.mem_of_getElem? (i := 19) rfl))) (mvT hZ (hw _ (List.mem_of_getElem? (i := 20) rfl))) (by decide) (backOf (W := 1) (rm4 l Z a0 hw [] b19 b1 h19 n0 Z19 g_b19 A19 f21 f22) hZ (hw _ (List.mem_of_getElem? (i := 20) rfl)) (hw _ (List.mem_of_getElem? (i := 17) rfl)) (by decide) (by decide)) (g := (mkF m 98 #[.val (.int p1), .val (.int p2), .val (.int p3), .val (.int p4), .val (.int p5), .val (.int p6), .val (.ref b1), .val (.int r15), .val (.int r16), .val (.int r17), .val (.int r18), .unset, .unset, .unset, .unset, .unset] [(.ref b1), (.ref b19), (.ref b19)])) rfl (by rw [hml]; rfl) (Steps.refl _) (a := b19) (argsL := [(.ref b1)]) (rest := [(.ref b19)]) (lenOf pd_0_3 rfl) rfl (by show 2 * 0 + _ ≤ _; exact Nat.le_of_eq rfl) (hb hby at_98) (fun _ _ => ⟨rfl, e19, (by decide : 2 + 0 ≤ _), (by decide : 8 + 0 ≤ _)⟩)
  dsimp only [Pt.U, Pt.locs, Pt.cells, Pt.slots] at X23 l23 y23 z23 st23 hQ23
  subst l23 y23 z23
  obtain ⟨rfl, N23q, Kq23, p23_0, p23_1, p23_2⟩ := hQ23
  have N23 := Fr.app N18 N23q
  have f24 : Arv Z T23.heap b1 k1 .byte (6 : Int32) (ys.map Value.int) (.int (0 : Int32)) := f20.keep Kq23 (ninS ne_b1_b19 nin0)
  have Z23 : n0 ≤ T23.heap.size := Nat.le_trans Z19 Kq23.1
  refine own_tr st23 ?_
  show own_Go p e below K (T23.setTop (mkF m 101 #[.val (.int p1), .val (.int p2), .val (.int p3), .val (.int p4), .val (.int p5), .val (.int p6), .val (.ref b1), .val (.int r15), .val (.int r16), .val (.int r17), .val (.int r18), .unset, .unset, .unset, .unset, .unset] [(.ref b19)]))
  refine own_st (fun t k => XS.astore X23.here hx rfl (hb hby at_101) rfl rfl (l' := #[.val (.int p1), .val (.int p2), .val (.int p3), .val (.int p4), .val (.int p5), .val (.int p6), .val (.ref b1), .val (.int r15), .val (.int r16), .val (.int r17), .val (.int r18), .val (.ref b19), .unset, .unset, .unset, .unset]) rfl k) ?_
  show own_Go p e below K (T23.setTop (mkF m 103 #[.val (.int p1), .val (.int p2), .val (.int p3), .val (.int p4), .val (.int p5), .val (.int p6), .val (.ref b1), .val (.int r15), .val (.int r16), .val (.int r17), .val (.int r18), .val (.ref b19), .unset, .unset, .unset, .unset] []))
  refine own_st (fun t k => XS.aload X23.here hx rfl (hb hby at_103) rfl rfl k) ?_
  show own_Go p e below K (T23.setTop (mkF m 105 #[.val (.int p1), .val (.int p2), .val (.int p3), .val (.int p4), .val (.int p5), .val (.int p6), .val (.ref b1), .val (.int r15), .val (.int r16), .val (.int r17), .val (.int r18), .val (.ref b19), .unset, .unset, .unset, .unset] [(.ref b19)]))
  obtain ⟨cq25, kq25, qv25a, qv25b, qv25c⟩ := isOf hZ rfl p23_0
  obtain ⟨_, _, ⟨T25, L25, k25, n25⟩, -, X25, ⟨Lc25, hQ25, l25, y25, z25⟩, st25⟩ := X23.virtualBack hx (y := (⟨"com/example/ms2rank/ms2rank/candidate/Unpacker", "number", "()I"⟩ : MethodName)) (z := (⟨"com/example/ms2rank/ms2rank/candidate/Unpacker", "number", "()I"⟩ : MethodName)) hown (mvT hZ (hw _ (List.mem_of_getElem? (i := 26) rfl))) (mvT hZ (hw _ (List.mem_of_getElem? (i := 27) rfl))) (notFace_of_selects (args := #[]) (mvT hZ (hw _ (List.mem_of_getElem? (i := 29) rfl)))) (mvT hZ (hw _ (List.mem_of_getElem? (i := 29) rfl))) (mvT hZ (hw _ (List.mem_of_getElem? (i := 28) rfl))) (by decide) (backOf (W := 0) (rm6 l Z a0 hw [] b19 ((0 : Int32)) (b1) (k1) ((6 : Int32)) (ys) (0) (en1) T23.heap n0 Z23 g_b19 (Ne.symm ne_b1_b19) p23_0 p23_2 p23_1 f24 (by decide) (Nat.zero_le _) (by show _ < (6 : Int); omega) A3 A4) hZ (hw _ (List.mem_of_getElem? (i := 30) rfl)) (hw _ (List.mem_of_getElem? (i := 17) rfl)) (by decide) (by decide)) qv25a qv25c (g := (mkF m 105 #[.val (.int p1), .val (.int p2), .val (.int p3), .val (.int p4), .val (.int p5), .val (.int p6), .val (.ref b1), .val (.int r15), .val (.int r16), .val (.int r17), .val (.int r18), .val (.ref b19), .unset, .unset, .unset, .unset] [(.ref b19)])) rfl (by rw [hml]; rfl) (Steps.refl _) (argsL := []) (rest := []) (lenOf pd_0_5 rfl) rfl (by show 2 * 0 + _ ≤ _; exact Nat.le_of_eq rfl) (hb hby at_105) (fun _ _ => ⟨rfl, rfl, (by decide : 2 + 0 ≤ _), (by decide : 8 + 0 ≤ _)⟩)
  dsimp only [Pt.U, Pt.locs, Pt.cells, Pt.slots] at X25 l25 y25 z25 st25 hQ25
  subst l25 y25 z25
  obtain ⟨r25, xq_25, rfl, hr25, N25q, Kq25, p25_0, p25_1, p25_2, pp25_0⟩ := hQ25
  have N25 := Fr.app N23 N25q
  have f26 : Arv Z T25.heap b1 k1 .byte (6 : Int32) (ys.map Value.int) (.int (0 : Int32)) := f24.keep Kq25 (ninS ne_b1_b19 nin0)
  have Z25 : n0 ≤ T25.heap.size := Nat.le_trans Z23 Kq25.1
  refine own_tr st25 ?_
  show own_Go p e below K (T25.setTop (mkF m 108 #[.val (.int p1), .val (.int p2), .val (.int p3), .val (.int p4), .val (.int p5), .val (.int p6), .val (.ref b1), .val (.int r15), .val (.int r16), .val (.int r17), .val (.int r18), .val (.ref b19), .unset, .unset, .unset, .unset] [(.int r25)]))
  refine own_st (fun t k => XS.istore X25.here hx rfl (hb hby at_108) rfl (l' := #[.val (.int p1), .val (.int p2), .val (.int p3), .val (.int p4), .val (.int p5), .val (.int p6), .val (.ref b1), .val (.int r15), .val (.int r16), .val (.int r17), .val (.int r18), .val (.ref b19), .val (.int r25), .unset, .unset, .unset]) rfl k) ?_
  show own_Go p e below K (T25.setTop (mkF m 110 #[.val (.int p1), .val (.int p2), .val (.int p3), .val (.int p4), .val (.int p5), .val (.int p6), .val (.ref b1), .val (.int r15), .val (.int r16), .val (.int r17), .val (.int r18), .val (.ref b19), .val (.int r25), .unset, .unset, .unset] []))
  refine own_st (fun t k => XS.aload X25.here hx rfl (hb hby at_110) rfl rfl k) ?_
  show own_Go p e below K (T25.setTop (mkF m 112 #[.val (.int p1), .val (.int p2), .val (.int p3), .val (.int p4), .val (.int p5), .val (.int p6), .val (.ref b1), .val (.int r15), .val (.int r16), .val (.int r17), .val (.int r18), .val (.ref b19), .val (.int r25), .unset, .unset, .unset] [(.ref b19)]))
  obtain ⟨cq27, kq27, qv27a, qv27b, qv27c⟩ := isOf hZ rfl p25_0
  obtain ⟨_, _, ⟨T27, L27, k27, n27⟩, -, X27, ⟨Lc27, hQ27, l27, y27, z27⟩, st27⟩ := X25.virtualBack hx (y := (⟨"com/example/ms2rank/ms2rank/candidate/Unpacker", "atEnd", "()Z"⟩ : MethodName)) (z := (⟨"com/example/ms2rank/ms2rank/candidate/Unpacker", "atEnd", "()Z"⟩ : MethodName)) hown (mvT hZ (hw _ (List.mem_of_getElem? (i := 33) rfl))) (mvT hZ (hw _ (List.mem_of_getElem? (i := 34) rfl))) (notFace_of_selects (args := #[]) (mvT hZ (hw _ (List.mem_of_getElem? (i := 36) rfl)))) (mvT hZ (hw _ (List.mem_of_getElem? (i := 36) rfl))) (mvT hZ (hw _ (List.mem_of_getElem? (i := 35) rfl))) (by decide) (backOf (W := 0) (rm7 l Z a0 hw [] b19 (xq_25) (b1) (k1) ((6 : Int32)) (ys) T25.heap n0 Z25 p25_2 p25_1 f26) hZ (hw _ (List.mem_of_getElem? (i := 37) rfl)) (hw _ (List.mem_of_getElem? (i := 17) rfl)) (by decide) (by decide)) qv27a qv27c (g := (mkF m 112 #[.val (.int p1), .val (.int p2), .val (.int p3), .val (.int p4), .val (.int p5), .val (.int p6), .val (.ref b1), .val (.int r15), .val (.int r16), .val (.int r17), .val (.int r18), .val (.ref b19), .val (.int r25), .unset, .unset, .unset] [(.ref b19)])) rfl (by rw [hml]; rfl) (Steps.refl _) (argsL := []) (rest := []) (lenOf pd_0_6 rfl) rfl (by show 2 * 0 + _ ≤ _; exact Nat.le_of_eq rfl) (hb hby at_112) (fun _ _ => ⟨rfl, rfl, (by decide : 2 + 0 ≤ _), (by decide : 8 + 0 ≤ _)⟩)
  dsimp only [Pt.U, Pt.locs, Pt.cells, Pt.slots] at X27 l27 y27 z27 st27 hQ27
  subst l27 y27 z27
  obtain ⟨r27, rfl, hr27, N27q, e27⟩ := hQ27
  have N27 := Fr.app N25 N27q
  refine own_tr st27 ?_
  show own_Go p e below K (T27.setTop (mkF m 115 #[.val (.int p1), .val (.int p2), .val (.int p3), .val (.int p4), .val (.int p5), .val (.int p6), .val (.ref b1), .val (.int r15), .val (.int r16), .val (.int r17), .val (.int r18), .val (.ref b19), .val (.int r25), .unset, .unset, .unset] [(.int r27)]))
  refine own_st (fun t k => XS.istore X27.here hx rfl (hb hby at_115) rfl (l' := #[.val (.int p1), .val (.int p2), .val (.int p3), .val (.int p4), .val (.int p5), .val (.int p6), .val (.ref b1), .val (.int r15), .val (.int r16), .val (.int r17), .val (.int r18), .val (.ref b19), .val (.int r25), .val (.int r27), .unset, .unset]) rfl k) ?_
  show own_Go p e below K (T27.setTop (mkF m 117 #[.val (.int p1), .val (.int p2), .val (.int p3), .val (.int p4), .val (.int p5), .val (.int p6), .val (.ref b1), .val (.int r15), .val (.int r16), .val (.int r17), .val (.int r18), .val (.ref b19), .val (.int r25), .val (.int r27), .unset, .unset] []))
  refine own_st (fun t k => XS.aload X27.here hx rfl (hb hby at_117) rfl rfl k) ?_
  show own_Go p e below K (T27.setTop (mkF m 119 #[.val (.int p1), .val (.int p2), .val (.int p3), .val (.int p4), .val (.int p5), .val (.int p6), .val (.ref b1), .val (.int r15), .val (.int r16), .val (.int r17), .val (.int r18), .val (.ref b19), .val (.int r25), .val (.int r27), .unset, .unset] [(.ref b19)]))
  obtain ⟨cq28, kq28, qv28a, qv28b, qv28c⟩ := isOf hZ e27 p25_0
  obtain ⟨_, _, ⟨T28, L28, k28, n28⟩, -, X28, ⟨Lc28, hQ28, l28, y28, z28⟩, st28⟩ := X27.virtualBack hx (y := (⟨"com/example/ms2rank/ms2rank/candidate/Unpacker", "number", "()I"⟩ : MethodName)) (z := (⟨"com/example/ms2rank/ms2rank/candidate/Unpacker", "number", "()I"⟩ : MethodName)) hown (mvT hZ (hw _ (List.mem_of_getElem? (i := 26) rfl))) (mvT hZ (hw _ (List.mem_of_getElem? (i := 27) rfl))) (notFace_of_selects (args := #[]) (mvT hZ (hw _ (List.mem_of_getElem? (i := 29) rfl)))) (mvT hZ (hw _ (List.mem_of_getElem? (i := 29) rfl))) (mvT hZ (hw _ (List.mem_of_getElem? (i := 28) rfl))) (by decide) (backOf (W := 0) (rm6 l Z a0 hw [] b19 (xq_25) (b1) (k1) ((6 : Int32)) (ys) (en1 + 1) (en2) T25.heap n0 Z25 g_b19 (Ne.symm ne_b1_b19) p25_0 p25_2 p25_1 f26 pp25_0 B1 (by show _ < (6 : Int); omega) B3 B4) hZ (hw _ (List.mem_of_getElem? (i := 30) rfl)) (hw _ (List.mem_of_getElem? (i := 17) rfl)) (by decide) (by decide)) qv28a qv28c (g := (mkF m 119 #[.val (.int p1), .val (.int p2), .val (.int p3), .val (.int p4), .val (.int p5), .val (.int p6), .val (.ref b1), .val (.int r15), .val (.int r16), .val (.int r17), .val (.int r18), .val (.ref b19), .val (.int r25), .val (.int r27), .unset, .unset] [(.ref b19)])) rfl (by rw [hml]; rfl) (Steps.refl _) (argsL := []) (rest := []) (lenOf pd_0_5 rfl) rfl (by show 2 * 0 + _ ≤ _; exact Nat.le_of_eq rfl) (hb hby at_119) (fun _ _ => ⟨rfl, e27, (by decide : 2 + 0 ≤ _), (by decide : 8 + 0 ≤ _)⟩)
  dsimp only [Pt.U, Pt.locs, Pt.cells, Pt.slots] at X28 l28 y28 z28 st28 hQ28
  subst l28 y28 z28
  obtain ⟨r28, xq_28, rfl, hr28, N28q, Kq28, p28_0, p28_1, p28_2, pp28_0⟩ := hQ28
  have N28 := Fr.app N27 N28q
  have f29 : Arv Z T28.heap b1 k1 .byte (6 : Int32) (ys.map Value.int) (.int (0 : Int32)) := f26.keep Kq28 (ninS ne_b1_b19 nin0)
  have Z28 : n0 ≤ T28.heap.size := Nat.le_trans Z25 Kq28.1
  refine own_tr st28 ?_
  show own_Go p e below K (T28.setTop (mkF m 122 #[.val (.int p1), .val (.int p2), .val (.int p3), .val (.int p4), .val (.int p5), .val (.int p6), .val (.ref b1), .val (.int r15), .val (.int r16), .val (.int r17), .val (.int r18), .val (.ref b19), .val (.int r25), .val (.int r27), .unset, .unset] [(.int r28)]))
  refine own_st (fun t k => XS.istore X28.here hx rfl (hb hby at_122) rfl (l' := #[.val (.int p1), .val (.int p2), .val (.int p3), .val (.int p4), .val (.int p5), .val (.int p6), .val (.ref b1), .val (.int r15), .val (.int r16), .val (.int r17), .val (.int r18), .val (.ref b19), .val (.int r25), .val (.int r27), .val (.int r28), .unset]) rfl k) ?_
  show own_Go p e below K (T28.setTop (mkF m 124 #[.val (.int p1), .val (.int p2), .val (.int p3), .val (.int p4), .val (.int p5), .val (.int p6), .val (.ref b1), .val (.int r15), .val (.int r16), .val (.int r17), .val (.int r18), .val (.ref b19), .val (.int r25), .val (.int r27), .val (.int r28), .unset] []))
  refine own_st (fun t k => XS.aload X28.here hx rfl (hb hby at_124) rfl rfl k) ?_
  show own_Go p e below K (T28.setTop (mkF m 126 #[.val (.int p1), .val (.int p2), .val (.int p3), .val (.int p4), .val (.int p5), .val (.int p6), .val (.ref b1), .val (.int r15), .val (.int r16), .val (.int r17), .val (.int r18), .val (.ref b19), .val (.int r25), .val (.int r27), .val (.int r28), .unset] [(.ref b19)]))
  obtain ⟨cq30, kq30, qv30a, qv30b, qv30c⟩ := isOf hZ rfl p28_0
  obtain ⟨_, _, ⟨T30, L30, k30, n30⟩, -, X30, ⟨Lc30, hQ30, l30, y30, z30⟩, st30⟩ := X28.virtualBack hx (y := (⟨"com/example/ms2rank/ms2rank/candidate/Unpacker", "atEnd", "()Z"⟩ : MethodName)) (z := (⟨"com/example/ms2rank/ms2rank/candidate/Unpacker", "atEnd", "()Z"⟩ : MethodName)) hown (mvT hZ (hw _ (List.mem_of_getElem? (i := 33) rfl))) (mvT hZ (hw _ (List.mem_of_getElem? (i := 34) rfl))) (notFace_of_selects (args := #[]) (mvT hZ (hw _ (List.mem_of_getElem? (i := 36) rfl)))) (mvT hZ (hw _ (List.mem_of_getElem? (i := 36) rfl))) (mvT hZ (hw _ (List.mem_of_getElem? (i := 35) rfl))) (by decide) (backOf (W := 0) (rm7 l Z a0 hw [] b19 (xq_28) (b1) (k1) ((6 : Int32)) (ys) T28.heap n0 Z28 p28_2 p28_1 f29) hZ (hw _ (List.mem_of_getElem? (i := 37) rfl)) (hw _ (List.mem_of_getElem? (i := 17) rfl)) (by decide) (by decide)) qv30a qv30c (g := (mkF m 126 #[.val (.int p1), .val (.int p2), .val (.int p3), .val (.int p4), .val (.int p5), .val (.int p6), .val (.ref b1), .val (.int r15), .val (.int r16), .val (.int r17), .val (.int r18), .val (.ref b19), .val (.int r25), .val (.int r27), .val (.int r28), .unset] [(.ref b19)])) rfl (by rw [hml]; rfl) (Steps.refl _) (argsL := []) (rest := []) (lenOf pd_0_6 rfl) rfl (by show 2 * 0 + _ ≤ _; exact Nat.le_of_eq rfl) (hb hby at_126) (fun _ _ => ⟨rfl, rfl, (by decide : 2 + 0 ≤ _), (by decide : 8 + 0 ≤ _)⟩)
  dsimp only [Pt.U, Pt.locs, Pt.cells, Pt.slots] at X30 l30 y30 z30 st30 hQ30
  subst l30 y30 z30
  obtain ⟨r30, rfl, hr30, N30q, e30⟩ := hQ30
  have N30 := Fr.app N28 N30q
  refine own_tr st30 ?_
  show own_Go p e below K (T30.setTop (mkF m 129 #[.val (.int p1), .val (.int p2), .val (.int p3), .val (.int p4), .val (.int p5), .val (.int p6), .val (.ref b1), .val (.int r15), .val (.int r16), .val (.int r17), .val (.int r18), .val (.ref b19), .val (.int r25), .val (.int r27), .val (.int r28), .unset] [(.int r30)]))
  refine own_st (fun t k => XS.istore X30.here hx rfl (hb hby at_129) rfl (l' := #[.val (.int p1), .val (.int p2), .val (.int p3), .val (.int p4), .val (.int p5), .val (.int p6), .val (.ref b1), .val (.int r15), .val (.int r16), .val (.int r17), .val (.int r18), .val (.ref b19), .val (.int r25), .val (.int r27), .val (.int r28), .val (.int r30)]) rfl k) ?_
  show own_Go p e below K (T30.setTop (mkF m 131 #[.val (.int p1), .val (.int p2), .val (.int p3), .val (.int p4), .val (.int p5), .val (.int p6), .val (.ref b1), .val (.int r15), .val (.int r16), .val (.int r17), .val (.int r18), .val (.ref b19), .val (.int r25), .val (.int r27), .val (.int r28), .val (.int r30)] []))
  refine own_st (fun t k => XS.iload X30.here hx rfl (hb hby at_131) rfl k) ?_
  show own_Go p e below K (T30.setTop (mkF m 133 #[.val (.int p1), .val (.int p2), .val (.int p3), .val (.int p4), .val (.int p5), .val (.int p6), .val (.ref b1), .val (.int r15), .val (.int r16), .val (.int r17), .val (.int r18), .val (.ref b19), .val (.int r25), .val (.int r27), .val (.int r28), .val (.int r30)] [(.int r25)]))
  refine own_st (fun t k => XS.iload X30.here hx rfl (hb hby at_133) rfl k) ?_
  show own_Go p e below K (T30.setTop (mkF m 135 #[.val (.int p1), .val (.int p2), .val (.int p3), .val (.int p4), .val (.int p5), .val (.int p6), .val (.ref b1), .val (.int r15), .val (.int r16), .val (.int r17), .val (.int r18), .val (.ref b19), .val (.int r25), .val (.int r27), .val (.int r28), .val (.int r30)] [(.int r16), (.int r25)]))
  refine own_st (fun t k => XS.icmpNo X30.here hx rfl (hb hby at_135) rfl (teq (hr25.trans ((own_ends (by decide) hr15 (by decide) (Nat.zero_le _) (by omega)).trans hr16.symm) : r25 = r16)).2 k) ?_
  show own_Go p e below K (T30.setTop (mkF m 138 #[.val (.int p1), .val (.int p2), .val (.int p3), .val (.int p4), .val (.int p5), .val (.int p6), .val (.ref b1), .val (.int r15), .val (.int r16), .val (.int r17), .val (.int r18), .val (.ref b19), .val (.int r25), .val (.int r27), .val (.int r28), .val (.int r30)] []))
  refine own_st (fun t k => XS.iload X30.here hx rfl (hb hby at_138) rfl k) ?_
  show own_Go p e below K (T30.setTop (mkF m 140 #[.val (.int p1), .val (.int p2), .val (.int p3), .val (.int p4), .val (.int p5), .val (.int p6), .val (.ref b1), .val (.int r15), .val (.int r16), .val (.int r17), .val (.int r18), .val (.ref b19), .val (.int r25), .val (.int r27), .val (.int r28), .val (.int r30)] [(.int r27)]))
  refine own_st (fun t k => XS.ifNo X30.here hx rfl (hb hby at_140) rfl ((if0 _ _).trans (teq (own_B.zero hr27 (fun q => by have z := pp25_0; rw [q] at z; have z' : (6 : Int) = ((en1 + 1 : Nat) : Int) := z; omega) : r27 = (0 : Int32))).2) k) ?_
  show own_Go p e below K (T30.setTop (mkF m 143 #[.val (.int p1), .val (.int p2), .val (.int p3), .val (.int p4), .val (.int p5), .val (.int p6), .val (.ref b1), .val (.int r15), .val (.int r16), .val (.int r17), .val (.int r18), .val (.ref b19), .val (.int r25), .val (.int r27), .val (.int r28), .val (.int r30)] []))
  refine own_st (fun t k => XS.iload X30.here hx rfl (hb hby at_143) rfl k) ?_
  show own_Go p e below K (T30.setTop (mkF m 145 #[.val (.int p1), .val (.int p2), .val (.int p3), .val (.int p4), .val (.int p5), .val (.int p6), .val (.ref b1), .val (.int r15), .val (.int r16), .val (.int r17), .val (.int r18), .val (.ref b19), .val (.int r25), .val (.int r27), .val (.int r28), .val (.int r30)] [(.int r28)]))
  refine own_st (fun t k => XS.iload X30.here hx rfl (hb hby at_145) rfl k) ?_
  show own_Go p e below K (T30.setTop (mkF m 147 #[.val (.int p1), .val (.int p2), .val (.int p3), .val (.int p4), .val (.int p5), .val (.int p6), .val (.ref b1), .val (.int r15), .val (.int r16), .val (.int r17), .val (.int r18), .val (.ref b19), .val (.int r25), .val (.int r27), .val (.int r28), .val (.int r30)] [(.int r18), (.int r28)]))
  refine own_st (fun t k => XS.icmpNo X30.here hx rfl (hb hby at_147) rfl (teq (hr28.trans ((own_ends (own_p1 (n := 6) hr15 (by show _ < (6 : Int); omega)) hr17 (by omega) B1 (by omega)).trans hr18.symm) : r28 = r18)).2 k) ?_
  show own_Go p e below K (T30.setTop (mkF m 150 #[.val (.int p1), .val (.int p2), .val (.int p3), .val (.int p4), .val (.int p5), .val (.int p6), .val (.ref b1), .val (.int r15), .val (.int r16), .val (.int r17), .val (.int r18), .val (.ref b19), .val (.int r25), .val (.int r27), .val (.int r28), .val (.int r30)] []))
  refine own_st (fun t k => XS.iload X30.here hx rfl (hb hby at_150) rfl k) ?_
  show own_Go p e below K (T30.setTop (mkF m 152 #[.val (.int p1), .val (.int p2), .val (.int p3), .val (.int p4), .val (.int p5), .val (.int p6), .val (.ref b1), .val (.int r15), .val (.int r16), .val (.int r17), .val (.int r18), .val (.ref b19), .val (.int r25), .val (.int r27), .val (.int r28), .val (.int r30)] [(.int r30)]))
  refine own_st (fun t k => XS.iload X30.here hx rfl (hb hby at_152) rfl k) ?_
  show own_Go p e below K (T30.setTop (mkF m 154 #[.val (.int p1), .val (.int p2), .val (.int p3), .val (.int p4), .val (.int p5), .val (.int p6), .val (.ref b1), .val (.int r15), .val (.int r16), .val (.int r17), .val (.int r18), .val (.ref b19), .val (.int r25), .val (.int r27), .val (.int r28), .val (.int r30)] [(.int r17), (.int r30)]))
  refine own_st (fun t k => XS.iconst X30.here hx rfl (hb hby at_154) k) ?_
  show own_Go p e below K (T30.setTop (mkF m 155 #[.val (.int p1), .val (.int p2), .val (.int p3), .val (.int p4), .val (.int p5), .val (.int p6), .val (.ref b1), .val (.int r15), .val (.int r16), .val (.int r17), .val (.int r18), .val (.ref b19), .val (.int r25), .val (.int r27), .val (.int r28), .val (.int r30)] [(.int (5 : Int32)), (.int r17), (.int r30)]))
  by_cases hc155 : r17 = (5 : Int32)
  · refine own_st (fun t k => XS.icmpNo X30.here hx rfl (hb hby at_155) rfl (teq hc155).2 k) ?_
    show own_Go p e below K (T30.setTop (mkF m 158 #[.val (.int p1), .val (.int p2), .val (.int p3), .val (.int p4), .val (.int p5), .val (.int p6), .val (.ref b1), .val (.int r15), .val (.int r16), .val (.int r17), .val (.int r18), .val (.ref b19), .val (.int r25), .val (.int r27), .val (.int r28), .val (.int r30)] [(.int r30)]))
    refine own_st (fun t k => XS.iconst X30.here hx rfl (hb hby at_158) k) ?_
    show own_Go p e below K (T30.setTop (mkF m 159 #[.val (.int p1), .val (.int p2), .val (.int p3), .val (.int p4), .val (.int p5), .val (.int p6), .val (.ref b1), .val (.int r15), .val (.int r16), .val (.int r17), .val (.int r18), .val (.ref b19), .val (.int r25), .val (.int r27), .val (.int r28), .val (.int r30)] [(.int (1 : Int32)), (.int r30)]))
    refine own_st (fun t k => XS.goto X30.here hx rfl (pc0 := 159) (pc' := 163) rfl (hb hby at_159) (by decide) (by decide) k) ?_
    show own_Go p e below K (T30.setTop (mkF m 163 #[.val (.int p1), .val (.int p2), .val (.int p3), .val (.int p4), .val (.int p5), .val (.int p6), .val (.ref b1), .val (.int r15), .val (.int r16), .val (.int r17), .val (.int r18), .val (.ref b19), .val (.int r25), .val (.int r27), .val (.int r28), .val (.int r30)] [(.int (1 : Int32)), (.int r30)]))
    refine own_st (fun t k => XS.icmpNo X30.here hx rfl (hb hby at_163) rfl (teq (own_B.one hr30 (Int32.toInt_inj.mp (by rw [pp28_0]; have z := hr17; rw [hc155] at z; have z' : (5 : Int) = (en2 : Int) := z; show ((en2 + 1 : Nat) : Int) = 6; omega)) : r30 = (1 : Int32))).2 k) ?_
    show own_Go p e below K (T30.setTop (mkF m 166 #[.val (.int p1), .val (.int p2), .val (.int p3), .val (.int p4), .val (.int p5), .val (.int p6), .val (.ref b1), .val (.int r15), .val (.int r16), .val (.int r17), .val (.int r18), .val (.ref b19), .val (.int r25), .val (.int r27), .val (.int r28), .val (.int r30)] []))
    refine own_st (fun t k => XS.iconst X30.here hx rfl (hb hby at_166) k) ?_
    show own_Go p e below K (T30.setTop (mkF m 167 #[.val (.int p1), .val (.int p2), .val (.int p3), .val (.int p4), .val (.int p5), .val (.int p6), .val (.ref b1), .val (.int r15), .val (.int r16), .val (.int r17), .val (.int r18), .val (.ref b19), .val (.int r25), .val (.int r27), .val (.int r28), .val (.int r30)] [(.int (1 : Int32))]))
    refine own_st (fun t k => XS.goto X30.here hx rfl (pc0 := 167) (pc' := 171) rfl (hb hby at_167) (by decide) (by decide) k) ?_
    show own_Go p e below K (T30.setTop (mkF m 171 #[.val (.int p1), .val (.int p2), .val (.int p3), .val (.int p4), .val (.int p5), .val (.int p6), .val (.ref b1), .val (.int r15), .val (.int r16), .val (.int r17), .val (.int r18), .val (.ref b19), .val (.int r25), .val (.int r27), .val (.int r28), .val (.int r30)] [(.int (1 : Int32))]))
    obtain ⟨fs, hr, hrun, hended, hW, hsame⟩ := X30.leave (v := some (.int (nar .boolean (1 : Int32)))) (fun h => by rw [Bd.returns] at h; cases h)
    refine ⟨_, retN X30 hx (t := .boolean) Bd.returns (by simp) (hb hby at_171) hr, fin _ _ _ hrun hended ?_ ⟨⟨_, rfl⟩, hW, hsame.mono (by decide) (by decide)⟩⟩
    show Q0 Z p1 p2 p3 p4 p5 p6 h0 n0 _ T30.heap _
    rw [e30]
    exact ⟨rfl, N30⟩
  refine own_st (fun t k => XS.icmpYes X30.here hx rfl (pc0 := 155) (pc' := 162) rfl (hb hby at_155) rfl (feq hc155).2 (by decide) (by decide) k) ?_
  show own_Go p e below K (T30.setTop (mkF m 162 #[.val (.int p1), .val (.int p2), .val (.int p3), .val (.int p4), .val (.int p5), .val (.int p6), .val (.ref b1), .val (.int r15), .val (.int r16), .val (.int r17), .val (.int r18), .val (.ref b19), .val (.int r25), .val (.int r27), .val (.int r28), .val (.int r30)] [(.int r30)]))
  refine own_st (fun t k => XS.iconst X30.here hx rfl (hb hby at_162) k) ?_
  show own_Go p e below K (T30.setTop (mkF m 163 #[.val (.int p1), .val (.int p2), .val (.int p3), .val (.int p4), .val (.int p5), .val (.int p6), .val (.ref b1), .val (.int r15), .val (.int r16), .val (.int r17), .val (.int r18), .val (.ref b19), .val (.int r25), .val (.int r27), .val (.int r28), .val (.int r30)] [(.int (0 : Int32)), (.int r30)]))
  refine own_st (fun t k => XS.icmpNo X30.here hx rfl (hb hby at_163) rfl (teq (own_B.zero hr30 (fun q => by have z := pp28_0; rw [q] at z; have z' : (6 : Int) = ((en2 + 1 : Nat) : Int) := z; exact hc155 (Int32.toInt_inj.mp (by rw [hr17]; show (en2 : Int) = 5; omega))) : r30 = (0 : Int32))).2 k) ?_
  show own_Go p e below K (T30.setTop (mkF m 166 #[.val (.int p1), .val (.int p2), .val (.int p3), .val (.int p4), .val (.int p5), .val (.int p6), .val (.ref b1), .val (.int r15), .val (.int r16), .val (.int r17), .val (.int r18), .val (.ref b19), .val (.int r25), .val (.int r27), .val (.int r28), .val (.int r30)] []))
  refine own_st (fun t k => XS.iconst X30.here hx rfl (hb hby at_166) k) ?_
  show own_Go p e below K (T30.setTop (mkF m 167 #[.val (.int p1), .val (.int p2), .val (.int p3), .val (.int p4), .val (.int p5), .val (.int p6), .val (.ref b1), .val (.int r15), .val (.int r16), .val (.int r17), .val (.int r18), .val (.ref b19), .val (.int r25), .val (.int r27), .val (.int r28), .val (.int r30)] [(.int (1 : Int32))]))
  refine own_st (fun t k => XS.goto X30.here hx rfl (pc0 := 167) (pc' := 171) rfl (hb hby at_167) (by decide) (by decide) k) ?_
  show own_Go p e below K (T30.setTop (mkF m 171 #[.val (.int p1), .val (.int p2), .val (.int p3), .val (.int p4), .val (.int p5), .val (.int p6), .val (.ref b1), .val (.int r15), .val (.int r16), .val (.int r17), .val (.int r18), .val (.ref b19), .val (.int r25), .val (.int r27), .val (.int r28), .val (.int r30)] [(.int (1 : Int32))]))
  obtain ⟨fs, hr, hrun, hended, hW, hsame⟩ := X30.leave (v := some (.int (nar .boolean (1 : Int32)))) (fun h => by rw [Bd.returns] at h; cases h)
  refine ⟨_, retN X30 hx (t := .boolean) Bd.returns (by simp) (hb hby at_171) hr, fin _ _ _ hrun hended ?_ ⟨⟨_, rfl⟩, hW, hsame.mono (by decide) (by decide)⟩⟩
  show Q0 Z p1 p2 p3 p4 p5 p6 h0 n0 _ T30.heap _
  rw [e30]
  exact ⟨rfl, N30⟩
set_option maxRecDepth 65536 in
set_option maxHeartbeats 40000000 in
theorem comes_1 {Post : Tables → Env → Array Value → State → Outcome → State → Prop} (hpost : ∀ tb e args s v u, (limb_1_1.after args s (.returned v) u = true ∧ limb_1_2.after args s (.returned v) u = true ∧ True) → FrameEnd s (.returned v) u (Jvm.fieldLocs frame_1_writes args s ++ Jvm.arrayLocs frame_1_arrays args s ++ Jvm.staticLocs frame_1_statics s) 16 128 → Post tb e args s (.returned v) u) :
    ArmFor flags0 classFile x code maxLocals ret World_1 tables_1 room_1 Calls_1 rest_1 Pre_1 Post := by
  intro l hfl _ _ p e ha hc hk s m args below hf hA hF happ hP
  obtain ⟨hcalls, hrest, hpre⟩ := hP
  obtain ⟨-, -, -, hnamed, -, -, -, hat⟩ := (Spec.applies_iff hf).mp happ
  obtain ⟨hg, hn⟩ := and_e (Cond.before_iff.mp (show (Jvm.Cond.and given_1 narrow_1).before args s = true from hpre))
  obtain ⟨g1, g2⟩ := and_e hg
  obtain ⟨g3, g4⟩ := and_e g2
  obtain ⟨g5, g6⟩ := and_e g4
  obtain ⟨g7, g8⟩ := and_e g6
  obtain ⟨g9, g10⟩ := and_e g8
  obtain ⟨g11, g12⟩ := and_e g10
  obtain ⟨w0, w1, w2, w3, w4, w5, rfl⟩ : ∃ w0 w1 w2 w3 w4 w5 : Value, args = #[w0, w1, w2, w3, w4, w5] := by
    have hs : args.size = 6 := by simpa [Cond.value, given_1] using g1
    obtain ⟨L⟩ := args
    match L, hs with
    | [w0, w1, w2, w3, w4, w5], _ => exact ⟨w0, w1, w2, w3, w4, w5, rfl⟩
  have hw := fun d (hd : d ∈ tables_1) => atoms_spec (ws := Jvm.Cond.code x code maxLocals ret :: tables_1) hat d (List.mem_cons_of_mem _ hd)
  have hfit : Fit s := fun {y c} hc i hi => by
    obtain ⟨ha, rfl⟩ := Array.getElem?_eq_some_iff.mp hc
    have q := List.all_eq_true.mp ((Array.all_eq_true_iff_forall_mem.mp hF) _ (Array.getElem_mem ha)) i (List.mem_range.mpr hi)
    simpa [Array.getElem?_eq_getElem hi] using q
  obtain ⟨i0, ei0⟩ := is_v g3
  obtain rfl : w0 = (.int i0) := Option.some.inj ei0
  obtain ⟨i1, ei1⟩ := is_v g5
  obtain rfl : w1 = (.int i1) := Option.some.inj ei1
  obtain ⟨i2, ei2⟩ := is_v g7
  obtain rfl : w2 = (.int i2) := Option.some.inj ei2
  obtain ⟨i3, ei3⟩ := is_v g9
  obtain rfl : w3 = (.int i3) := Option.some.inj ei3
  obtain ⟨i4, ei4⟩ := is_v g11
  obtain rfl : w4 = (.int i4) := Option.some.inj ei4
  obtain ⟨i5, ei5⟩ := is_v g12
  obtain rfl : w5 = (.int i5) := Option.some.inj ei5
  obtain ⟨n, o, h1, h2, h3, _, L, rfl, ⟨rfl, N⟩, hq⟩ := rm0 l s _ hw tables_1 i0 i1 i2 i3 i4 i5 s.heap s.heap.size (Nat.le_refl _) p e ha hc hk s m _ below hf ((Spec.applies_iff_loose hf).mp happ).1 ⟨rfl, State.Warmed39.refl s, rfl⟩ trivial
  refine ⟨n, _, h1, h2, h3, hpost _ _ _ _ _ _ ⟨Cond.after_iff.mpr rfl, Cond.after_iff.mpr (eq_i res_at (Term.int_eval (1)) rfl), trivial⟩ ⟨hq.1, hq.2.1, (hq.2.2.sift fun y hy => Or.inr (N y hy)).mono (by decide) (by decide)⟩⟩
theorem main_1_1 : Claimed_1_1 := comes_1 fun _ _ _ _ _ _ h hF => ⟨h.1, hF⟩
theorem main_1_2 : Claimed_1_2 := comes_1 fun _ _ _ _ _ _ h hF => ⟨h.2.1, hF⟩
end Jvm.Pilot.@@N@@
namespace Jvm.Pilot.@@N@@
open Jvm Jvm.ClassFile Sem Op Lib Jvm.Free Jvm.Stand Jvm.Pilot.@@N@@.Jvm.D
/-! MADE BY PROGRAM (witnessworld.py) out of the Statement's table words and the real class files: 9 classes; the members and pool entries that the words name. The judged class is class 1, her method 4. -/
namespace start1
open Jvm.ClassFile
def u (s : String) : CpInfo := .utf8 (stringToUtf16 s)
/-- a pool by its gaps: so many unusable entries, then the entry; so many at the end -/
def gap : Nat → List CpInfo → List CpInfo
  | 0, r => r
  | n + 1, r => .unusable :: gap n r
def poolList (es : List (Nat × CpInfo)) (last : Nat) : List CpInfo := es.foldr (fun e r => gap e.1 (e.2 :: r)) (gap last [])
def pool (es : List (Nat × CpInfo)) (last : Nat) : Array CpInfo := ⟨poolList es last⟩
def fileOf (pool : Array CpInfo) (this : Nat) (attrs : Array Attribute := #[]) (ms : Array MethodInfo := #[]) (fl : Nat := 33) (sup : Nat := 0) (ifs : Array Nat := #[]) (fds : Array FieldInfo := #[]) : ClassFile where
  minorVersion := 0
  majorVersion := 65
  constantPool := pool
  accessFlags := fl
  thisClass := this
  superClass := sup
  interfaces := ifs
  fields := fds
  methods := ms
  attributes := attrs
def plain (name : String) (sup : Option ClassId) : Class where
  name := name
  kind := .ordinary
  loader := none
  accessFlags := 33
  super := sup
  interfaces := #[]
  cf := none
  fields := #[]
  methods := #[]
  instanceTypes := #[]
  staticTypes := #[]
  resolved := #[]
  callSites := []
  init := .initialized
  statics := none
  mirror := none

def pool0 : Array CpInfo := pool [(5, u "<init>"), (0, u "()V"), (1, .class_ 10), (1, u "java/lang/Object")] 113

def k0c0 : Code := { maxStack := 0, maxLocals := 1, code := object_method_1_code, exceptionTable := #[], attributes := #[] }
def k0m0 : Method := { name := "<init>", desc := "()V", sig := { parameters := [], returnType := none }, accessFlags := 1, code := some k0c0 }
/-- java/lang/Object -/
def k0 : Class := { plain "java/lang/Object" none with
  accessFlags := 33
  interfaces := #[]
  cf := some (fileOf pool0 8 #[] #[{ accessFlags := 1, nameIndex := 5, descriptorIndex := 6, attributes := #[] }] 33 0 #[] #[])
  fields := #[]
  methods := #[k0m0]
  instanceTypes := #[]
  staticTypes := #[]
  resolved := Array.replicate 124 none
  statics := none }

def pool1 : Array CpInfo := pool [(2, .class_ 4), (1, u "java/lang/Object"), (0, u "<init>"), (0, u "()V"), (0, .methodref 8 9), (0, .class_ 10), (0, .nameAndType 11 12), (0, u "com/example/ms2rank/ms2rank/candidate/UnpackerNumberPinLaw"), (0, u "term"), (0, u "([BIIJ)J"), (0, .long 128), (1, .long 16384), (1, .long 2097152), (1, .long 268435456), (1, .methodref 8 22), (0, .nameAndType 23 24), (0, u "end"), (0, u "([BI)I"), (0, .methodref 8 26), (0, .nameAndType 27 28), (0, u "expected"), (0, u "([BII)I"), (0, .class_ 30), (0, u "com/example/ms2rank/ms2rank/candidate/Unpacker"), (0, .methodref 29 32), (0, .nameAndType 5 33), (0, u "([B)V"), (0, .methodref 29 35), (0, .nameAndType 36 37), (0, u "number"), (0, u "()I"), (0, .methodref 29 39), (0, .nameAndType 40 41), (0, u "atEnd"), (0, u "()Z"), (3, u "law"), (0, u "(IIIIII)Z")] 4

def k1m0 : Method := { name := "<init>", desc := "()V", sig := { parameters := [], returnType := none }, accessFlags := 1, code := none }
def k1c1 : Code := { maxStack := 3, maxLocals := 2, code := method_2_code, exceptionTable := #[], attributes := #[] }
def k1m1 : Method := { name := "end", desc := "([BI)I", sig := { parameters := [(.array .byte), .int], returnType := some .int }, accessFlags := 10, code := some k1c1 }
def k1c2 : Code := { maxStack := 4, maxLocals := 5, code := method_3_code, exceptionTable := #[], attributes := #[] }
def k1m2 : Method := { name := "term", desc := "([BIIJ)J", sig := { parameters := [(.array .byte), .int, .int, .long], returnType := some .long }, accessFlags := 10, code := some k1c2 }
def k1c3 : Code := { maxStack := 7, maxLocals := 5, code := method_4_code, exceptionTable := #[], attributes := #[] }
def k1m3 : Method := { name := "expected", desc := "([BII)I", sig := { parameters := [(.array .byte), .int, .int], returnType := some .int }, accessFlags := 10, code := some k1c3 }
def k1c4 : Code := { maxStack := 4, maxLocals := 16, code := code, exceptionTable := #[], attributes := #[] }
def k1m4 : Method := { name := "law", desc := "(IIIIII)Z", sig := { parameters := [.int, .int, .int, .int, .int, .int], returnType := some .boolean }, accessFlags := 9, code := some k1c4 }
/-- com/example/ms2rank/ms2rank/candidate/UnpackerNumberPinLaw -/
def k1 : Class := { plain "com/example/ms2rank/ms2rank/candidate/UnpackerNumberPinLaw" (some 0) with
  accessFlags := 49
  interfaces := #[]
  cf := some (fileOf pool1 8 #[] #[{ accessFlags := 1, nameIndex := 5, descriptorIndex := 6, attributes := #[] }, { accessFlags := 10, nameIndex := 23, descriptorIndex := 24, attributes := #[] }, { accessFlags := 10, nameIndex := 11, descriptorIndex := 12, attributes := #[] }, { accessFlags := 10, nameIndex := 27, descriptorIndex := 28, attributes := #[] }, { accessFlags := 9, nameIndex := 45, descriptorIndex := 46, attributes := #[] }] 49 2 #[] #[])
  fields := #[]
  methods := #[k1m0, k1m1, k1m2, k1m3, k1m4]
  instanceTypes := #[]
  staticTypes := #[]
  resolved := Array.replicate 51 none
  statics := none }

def pool2 : Array CpInfo := pool [(1, .methodref 2 3), (0, .class_ 4), (0, .nameAndType 5 6), (0, u "java/lang/Object"), (0, u "<init>"), (0, u "()V"), (0, .fieldref 8 9), (0, .class_ 10), (0, .nameAndType 11 12), (0, u "com/example/ms2rank/ms2rank/candidate/Unpacker"), (0, u "packed"), (0, u "[B"), (0, .fieldref 8 14), (0, .nameAndType 15 16), (0, u "at"), (0, u "I"), (2, u "number"), (0, u "()I"), (11, u "([B)V"), (2, u "atEnd"), (0, u "()Z")] 6

def k2c0 : Code := { maxStack := 2, maxLocals := 2, code := prog_8_method_1_code, exceptionTable := #[], attributes := #[] }
def k2m0 : Method := { name := "<init>", desc := "([B)V", sig := { parameters := [(.array .byte)], returnType := none }, accessFlags := 0, code := some k2c0 }
def k2c1 : Code := { maxStack := 2, maxLocals := 1, code := prog_8_method_2_code, exceptionTable := #[], attributes := #[] }
def k2m1 : Method := { name := "atEnd", desc := "()Z", sig := { parameters := [], returnType := some .boolean }, accessFlags := 0, code := some k2c1 }
def k2c2 : Code := { maxStack := 5, maxLocals := 4, code := prog_8_method_3_code, exceptionTable := #[], attributes := #[] }
def k2m2 : Method := { name := "number", desc := "()I", sig := { parameters := [], returnType := some .int }, accessFlags := 0, code := some k2c2 }
/-- com/example/ms2rank/ms2rank/candidate/Unpacker -/
def k2 : Class := { plain "com/example/ms2rank/ms2rank/candidate/Unpacker" (some 0) with
  accessFlags := 32
  interfaces := #[]
  cf := some (fileOf pool2 8 #[] #[{ accessFlags := 0, nameIndex := 5, descriptorIndex := 32, attributes := #[] }, { accessFlags := 0, nameIndex := 35, descriptorIndex := 36, attributes := #[] }, { accessFlags := 0, nameIndex := 19, descriptorIndex := 20, attributes := #[] }] 32 2 #[] #[{ accessFlags := 18, nameIndex := 11, descriptorIndex := 12, attributes := #[] }, { accessFlags := 2, nameIndex := 15, descriptorIndex := 16, attributes := #[] }])
  fields := #[{ name := "packed", type := (.array .byte), accessFlags := 18, slot := 0, constantValue := 0 }, { name := "at", type := .int, accessFlags := 2, slot := 1, constantValue := 0 }]
  methods := #[k2m0, k2m1, k2m2]
  instanceTypes := #[(.array .byte), .int]
  staticTypes := #[]
  resolved := Array.replicate 43 none
  statics := none }

def pool3 : Array CpInfo := pool [(1, u "java/lang/Cloneable"), (0, .class_ 1), (0, u "java/lang/Object"), (0, .class_ 3)] 3

/-- java/lang/Cloneable -/
def k3 : Class := { plain "java/lang/Cloneable" (some 0) with
  accessFlags := 1537
  interfaces := #[]
  cf := some (fileOf pool3 2 #[] #[] 1537 4 #[] #[])
  fields := #[]
  methods := #[]
  instanceTypes := #[]
  staticTypes := #[]
  resolved := Array.replicate 8 none
  statics := none }

def pool4 : Array CpInfo := pool [(1, u "java/io/Serializable"), (0, .class_ 1), (0, u "java/lang/Object"), (0, .class_ 3)] 3

/-- java/io/Serializable -/
def k4 : Class := { plain "java/io/Serializable" (some 0) with
  accessFlags := 1537
  interfaces := #[]
  cf := some (fileOf pool4 2 #[] #[] 1537 4 #[] #[])
  fields := #[]
  methods := #[]
  instanceTypes := #[]
  staticTypes := #[]
  resolved := Array.replicate 8 none
  statics := none }

/-- the primitive byte -/
def k5 : Class := { plain "byte" none with kind := .primitive 'B', accessFlags := 0x411 }
/-- [B -/
def k6 : Class := { plain "[B" (some 0) with kind := .array 5 .byte, interfaces := #[3, 4], accessFlags := 1041 }

/-- the primitive int -/
def k7 : Class := { plain "int" none with kind := .primitive 'I', accessFlags := 0x411 }
/-- [I -/
def k8 : Class := { plain "[I" (some 0) with kind := .array 7 .int, interfaces := #[3, 4], accessFlags := 1041 }

def heap : Heap := #[]
def classes : Array Class := #[k0, k1, k2, k3, k4, k5, k6, k7, k8]
def interned : List (Array UInt16 × Addr) := []
def slotsUsed : Nat := 0
def theMethod : MethodId := ⟨1, 4⟩
def args0 : Array Value := #[.int 1, .int 2, .int 3, .int 4, .int 5, .int 6]
def aboutOver (below : List Frame) : State where
  vm := { classes := classes, interned := interned.toArray }
  heap := heap
  slotsUsed := slotsUsed
  threads := #[{ frames := .invoking theMethod args0 :: below }]
def below0 : List Frame := [.native { method := ⟨0, 0⟩, args := #[] }]
def about1 : State := aboutOver below0
def p0 : Program := .bare "" "" ""
def e0 : Env := launch0.env 0 0 0
theorem w_frames : about1.frames = Frame.invoking theMethod args0 :: below0 := rfl
set_option maxRecDepth 65536 in
theorem w_args : argsFit about1.vm theMethod args0 = true := by decide +kernel
set_option maxRecDepth 65536 in
theorem w_heap : heapFits about1 = true := by decide +kernel
set_option maxRecDepth 65536 in
theorem w_runnable : about1.curStatus? = some .runnable := by decide +kernel
set_option maxRecDepth 65536 in
theorem w_alone : about1.alone = true := by decide +kernel
set_option maxRecDepth 65536 in
theorem w_named : about1.methodNamed? x = some theMethod := by decide +kernel
set_option maxRecDepth 65536 in
theorem w_hears : about1.hears theMethod below0 = true := by decide +kernel
set_option maxRecDepth 65536 in
theorem w_ripe : about1.ripe theMethod args0 below0 = true := by decide +kernel
theorem w_running : about1.status = .running := rfl
set_option maxRecDepth 65536 in
theorem w_room : about1.hasRoom e0.platform room_1 = true :=
  launch0.hasRoom_least _ room_1 (by decide +kernel) (by decide +kernel) (by decide +kernel) (by decide +kernel) (by decide +kernel) (by decide +kernel)
theorem allAtoms_all (ts : List Jvm.Cond) (a : Array Jvm.Value) (st : Jvm.State) : (allAtoms ts).before a st = ts.all (fun c => c.before a st) := by
  induction ts with
  | nil => rfl
  | cons c t ih =>
    show (Jvm.Cond.and c (allAtoms t)).before a st = _
    rw [Jvm.Cond.before_and, ih, List.all_cons]
def words1 : List Jvm.Cond := Jvm.Cond.code x code maxLocals ret :: tables_1
/-- a 'code' word, met by the world's own term for the bytes: nothing is compared byte by byte -/
theorem code_word {y : MethodName} {bytes : ByteArray} {mx : Nat} {rt : Option FieldType} {a : Array Value} {s : State} {m : MethodId} {meth : Method} {c : Code} (h1 : s.methodNamed? y = some m) (h2 : s.vm.method? m = some meth) (h3 : meth.code = some c) (h4 : c.code = bytes)
    (h5 : (c.maxLocals == mx && c.exceptionTable.isEmpty && decide (c.maxStack ≤ mostOperands) && decide (meth.sig.returnType = rt) && !meth.locks && decide (parseMethodDescriptor y.desc = some meth.sig)) = true) : (Jvm.Cond.code y bytes mx rt).before a s = true := by
  simp only [Bool.and_eq_true, beq_iff_eq, Bool.not_eq_true', decide_eq_true_eq] at h5
  obtain ⟨⟨⟨⟨⟨g1, g2⟩, g3⟩, g4⟩, g5⟩, g6⟩ := h5
  simp [Cond.before, Cond.holds, Cond.value, h1, h2, h3, h4, g1, g2, g3, g4, g5, g6]
def isCode : Jvm.Cond → Bool
  | .code _ _ _ _ => true
  | _ => false
theorem all_split {L : List Jvm.Cond} {P : Jvm.Cond → Bool} (h1 : L.all (fun c => isCode c || P c) = true) (h2 : ∀ c ∈ L.filter isCode, P c = true) : L.all P = true := by
  refine List.all_eq_true.mpr fun c hc => ?_
  have h := List.all_eq_true.mp h1 c hc
  rcases Bool.eq_false_or_eq_true (isCode c) with hi | hi
  · exact h2 c (List.mem_filter.mpr ⟨hc, hi⟩)
  · simpa [hi] using h
set_option maxRecDepth 65536 in
theorem w_c0 : (Jvm.Cond.code x code maxLocals ret).before args0 about1 = true := code_word (m := ⟨1, 4⟩) (meth := k1m4) (c := k1c4) (by decide +kernel) rfl rfl rfl (by decide +kernel)
set_option maxRecDepth 65536 in
theorem w_c1 : (Jvm.Cond.code ({ cls := "com/example/ms2rank/ms2rank/candidate/UnpackerNumberPinLaw", name := "end", desc := "([BI)I" } : Jvm.MethodName) method_2_code (2 : Nat) (Option.some Jvm.ClassFile.FieldType.int)).before args0 about1 = true := code_word (m := ⟨1, 1⟩) (meth := k1m1) (c := k1c1) (by decide +kernel) rfl rfl rfl (by decide +kernel)
set_option maxRecDepth 65536 in
theorem w_c2 : (Jvm.Cond.code ({ cls := "com/example/ms2rank/ms2rank/candidate/UnpackerNumberPinLaw", name := "expected", desc := "([BII)I" } : Jvm.MethodName) method_4_code (5 : Nat) (Option.some Jvm.ClassFile.FieldType.int)).before args0 about1 = true := code_word (m := ⟨1, 3⟩) (meth := k1m3) (c := k1c3) (by decide +kernel) rfl rfl rfl (by decide +kernel)
set_option maxRecDepth 65536 in
theorem w_c3 : (Jvm.Cond.code ({ cls := "com/example/ms2rank/ms2rank/candidate/UnpackerNumberPinLaw", name := "term", desc := "([BIIJ)J" } : Jvm.MethodName) method_3_code (5 : Nat) (Option.some Jvm.ClassFile.FieldType.long)).before args0 about1 = true := code_word (m := ⟨1, 2⟩) (meth := k1m2) (c := k1c2) (by decide +kernel) rfl rfl rfl (by decide +kernel)
set_option maxRecDepth 65536 in
theorem w_c4 : (Jvm.Cond.code ({ cls := "com/example/ms2rank/ms2rank/candidate/Unpacker", name := "<init>", desc := "([B)V" } : Jvm.MethodName) prog_8_method_1_code (2 : Nat) (Option.none : Option Jvm.ClassFile.FieldType)).before args0 about1 = true := code_word (m := ⟨2, 0⟩) (meth := k2m0) (c := k2c0) (by decide +kernel) rfl rfl rfl (by decide +kernel)
set_option maxRecDepth 65536 in
theorem w_c5 : (Jvm.Cond.code ({ cls := "java/lang/Object", name := "<init>", desc := "()V" } : Jvm.MethodName) object_method_1_code (1 : Nat) (Option.none : Option Jvm.ClassFile.FieldType)).before args0 about1 = true := code_word (m := ⟨0, 0⟩) (meth := k0m0) (c := k0c0) (by decide +kernel) rfl rfl rfl (by decide +kernel)
set_option maxRecDepth 65536 in
theorem w_c6 : (Jvm.Cond.code ({ cls := "com/example/ms2rank/ms2rank/candidate/Unpacker", name := "number", desc := "()I" } : Jvm.MethodName) prog_8_method_3_code (4 : Nat) (Option.some Jvm.ClassFile.FieldType.int)).before args0 about1 = true := code_word (m := ⟨2, 2⟩) (meth := k2m2) (c := k2c2) (by decide +kernel) rfl rfl rfl (by decide +kernel)
set_option maxRecDepth 65536 in
theorem w_c7 : (Jvm.Cond.code ({ cls := "com/example/ms2rank/ms2rank/candidate/Unpacker", name := "atEnd", desc := "()Z" } : Jvm.MethodName) prog_8_method_2_code (1 : Nat) (Option.some Jvm.ClassFile.FieldType.boolean)).before args0 about1 = true := code_word (m := ⟨2, 1⟩) (meth := k2m1) (c := k2c1) (by decide +kernel) rfl rfl rfl (by decide +kernel)
def codes1 : List Jvm.Cond := [Jvm.Cond.code x code maxLocals ret, Jvm.Cond.code ({ cls := "com/example/ms2rank/ms2rank/candidate/UnpackerNumberPinLaw", name := "end", desc := "([BI)I" } : Jvm.MethodName) method_2_code (2 : Nat) (Option.some Jvm.ClassFile.FieldType.int), Jvm.Cond.code ({ cls := "com/example/ms2rank/ms2rank/candidate/UnpackerNumberPinLaw", name := "expected", desc := "([BII)I" } : Jvm.MethodName) method_4_code (5 : Nat) (Option.some Jvm.ClassFile.FieldType.int), Jvm.Cond.code ({ cls := "com/example/ms2rank/ms2rank/candidate/UnpackerNumberPinLaw", name := "term", desc := "([BIIJ)J" } : Jvm.MethodName) method_3_code (5 : Nat) (Option.some Jvm.ClassFile.FieldType.long), Jvm.Cond.code ({ cls := "com/example/ms2rank/ms2rank/candidate/Unpacker", name := "<init>", desc := "([B)V" } : Jvm.MethodName) prog_8_method_1_code (2 : Nat) (Option.none : Option Jvm.ClassFile.FieldType), Jvm.Cond.code ({ cls := "java/lang/Object", name := "<init>", desc := "()V" } : Jvm.MethodName) object_method_1_code (1 : Nat) (Option.none : Option Jvm.ClassFile.FieldType), Jvm.Cond.code ({ cls := "com/example/ms2rank/ms2rank/candidate/Unpacker", name := "number", desc := "()I" } : Jvm.MethodName) prog_8_method_3_code (4 : Nat) (Option.some Jvm.ClassFile.FieldType.int), Jvm.Cond.code ({ cls := "com/example/ms2rank/ms2rank/candidate/Unpacker", name := "atEnd", desc := "()Z" } : Jvm.MethodName) prog_8_method_2_code (1 : Nat) (Option.some Jvm.ClassFile.FieldType.boolean)]
set_option maxRecDepth 65536 in
theorem codes_eq : words1.filter isCode = codes1 := rfl
theorem w_codes : ∀ c ∈ words1.filter isCode, c.before args0 about1 = true := by
  rw [codes_eq]
  intro c hc
  simp only [codes1, List.mem_cons, List.not_mem_nil, or_false] at hc
  rcases hc with rfl | rfl | rfl | rfl | rfl | rfl | rfl | rfl
  · exact w_c0
  · exact w_c1
  · exact w_c2
  · exact w_c3
  · exact w_c4
  · exact w_c5
  · exact w_c6
  · exact w_c7
set_option maxRecDepth 65536 in
theorem w_t1 : (words1.take 24).all (fun c => isCode c || c.before args0 about1) = true := by decide +kernel
set_option maxRecDepth 65536 in
theorem w_t2 : (words1.drop 24).all (fun c => isCode c || c.before args0 about1) = true := by decide +kernel
theorem w_tables : (allAtoms (Jvm.Cond.code x code maxLocals ret :: tables_1)).before args0 about1 = true := by
  rw [allAtoms_all]
  show words1.all (fun c => c.before args0 about1) = true
  refine all_split ?_ w_codes
  rw [← List.take_append_drop 24 words1, List.all_append, w_t1, w_t2]
  rfl
set_option maxRecDepth 65536 in
theorem w_case : (Jvm.Cond.and given_1 narrow_1).before args0 about1 = true := by decide +kernel
theorem w_applies : (headSpec (Jvm.Cond.code x code maxLocals ret :: tables_1) room_1).applies x e0.platform about1 = true :=
  (Spec.applies_iff w_frames).mpr ⟨w_running, w_runnable, w_alone, w_named, w_hears, w_ripe, w_room, w_tables⟩
theorem atStart : AtStart classFile x code maxLocals ret World_1 tables_1 room_1 Calls_1 rest_1 Pre_1 launch0 p0 e0 about1 theMethod args0 below0 :=
  ⟨lists_1, trivial, launch0.admits_env _ _ _, launch0.least_env, fairChoices_fair.cas, fairChoices_fair.clock, w_frames, w_args, w_heap, w_applies, trivial, trivial, w_case⟩
end start1
theorem witness_1 : WitnessClaimed_1 := ⟨start1.p0, start1.e0, start1.about1, start1.theMethod, start1.args0, start1.below0, start1.atStart⟩
end Jvm.Pilot.@@N@@
