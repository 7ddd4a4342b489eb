import JvmDerived
import JvmDerived.Pilot.@@N@@Statement
import JvmDerived.Pilot.@@N@@Code
set_option linter.unusedVariables false
set_option linter.unusedSimpArgs false
namespace Jvm.RoadKit
open Sem ClassFile Op Lib Jvm.Stand Jvm.Free Jvm.LawKit
section New
variable {p : Program} {l : Launch} {e : Env} {R : Room} {s : State} {m : MethodId} {args : Array Value} {below : List Frame} {meth : Method} {c : Code} {T : State} {locs : List Loc} {cells slots : Nat}
theorem retI (X : Stand p l e R s m args below meth c T locs cells slots) (hx : p.tables.exec = Jvm.exec) {pc : Nat} {Ls : Array Slot} {z : Int32} {rest : List Value} (hret : meth.sig.returnType = some .int) (hd : decode c.code pc = .ok (.ireturn, 1)) {fs : List Frame}
    (hl : ∀ (f : JFrame) (acts : List Action), f.method = m → f.locked = none → f.entered = [] → (doReturn e (T.setTop f) acts (some (.int z))).1 = T.setFrames fs) : Steps p.tables e below (T.setTop (mkF m pc Ls (.int z :: rest))) (T.setFrames fs) := by
  have hm' : T.vm.method? m = some meth := X.method'
  have hn : narrow .int (.int z) = .int z := rfl
  show Steps p.tables e below (T.setTop { method := m, pc := pc, locals := Ls, stack := _ :: rest, locked := none }) _
  jvm_step X.here [X.here.top, hx, hd, hm', hret, hn]
  first | (intro acts; rw [hl _ acts rfl rfl rfl]) | rw [hl _ _ rfl rfl rfl]
  exact Steps.refl _
end New
end Jvm.RoadKit
namespace Jvm.Pilot.@@N@@
open Jvm Jvm.ClassFile Sem Op Lib Jvm.Free Jvm.Stand Jvm.LawKit Jvm.RoadKit Bundle Jvm.Pilot.@@N@@.Jvm.D
/-- from the state T the run comes to a state of which K holds -/
def own_Go (p : Program) (e : Env) (below : List Frame) (K : State → Prop) (T : State) : Prop := ∃ t, Steps p.tables e below T t ∧ K t
theorem own_st {p : Program} {e : Env} {below : List Frame} {K : State → Prop} {T T' : State} (h : ∀ t, Steps p.tables e below T' t → Steps p.tables e below T t) (g : own_Go p e below K T') : own_Go p e below K T := by
  obtain ⟨t, a, b⟩ := g; exact ⟨t, h t a, b⟩
theorem own_tr {p : Program} {e : Env} {below : List Frame} {K : State → Prop} {T T' : State} (h : Steps p.tables e below T T') (g : own_Go p e below K T') : own_Go p e below K T := by
  obtain ⟨t, a, b⟩ := g; exact ⟨t, h.trans a, b⟩
theorem own_lrem {tb : Tables} [Ours tb] {e : Env} {below : List Frame} {T target : State} {m : MethodId} {c : Code} {g : JFrame} (h : At T m c below) (hx : tb.exec = Jvm.exec) (hg : g.method = m) {x y : Int64} {rest : List Value} (hd : decode c.code g.pc = .ok (.lrem, 1)) (hs : g.stack = .long y :: .long x :: rest) (hy : y ≠ 0)
    (hr : Steps tb e below (T.setTop { g with pc := g.pc + 1, stack := .long (x % y) :: rest }) target) : Steps tb e below (T.setTop g) target := by
  have q : x - x / y * y = x % y := lrem_mod x y
  exact XS.lrem h hx hg hd hs hy (by rw [q]; exact hr)
/-- a boolean's worth: 1 where P holds, 0 where it doesn't -/
def own_B (P : Prop) (r : Int32) : Prop := (r = 1 ∧ P) ∨ (r = 0 ∧ ¬ P)
theorem own_B.yes {P : Prop} {r : Int32} (e : r = 1) (h : P) : own_B P r := Or.inl ⟨e, h⟩
theorem own_B.no {P : Prop} {r : Int32} (e : r = 0) (h : ¬ P) : own_B P r := Or.inr ⟨e, h⟩
theorem own_B.same {P Q : Prop} {r v : Int32} (a : own_B P r) (b : own_B Q v) (h : P ↔ Q) : r = v := by
  rcases a with ⟨rfl, p⟩ | ⟨rfl, p⟩ <;> rcases b with ⟨rfl, q⟩ | ⟨rfl, q⟩
  · rfl
  · exact absurd (h.mp p) q
  · exact absurd (h.mpr q) p
  · rfl
theorem own_B.one {P : Prop} {r : Int32} (a : own_B P r) (h : P) : r = 1 := by
  rcases a with ⟨rfl, p⟩ | ⟨rfl, p⟩
  · rfl
  · exact absurd h p
theorem own_B.zero {P : Prop} {r : Int32} (a : own_B P r) (h : ¬ P) : r = 0 := by
  rcases a with ⟨rfl, p⟩ | ⟨rfl, p⟩
  · exact absurd p h
  · rfl
theorem own_B.ne0 {P : Prop} {r : Int32} (a : own_B P r) (h : P) : ¬ r = 0 := by rw [a.one h]; decide
theorem own_B.holds {P : Prop} {r : Int32} (a : own_B P r) (h : ¬ r = 0) : P := by
  rcases a with ⟨rfl, p⟩ | ⟨rfl, p⟩
  · exact p
  · exact absurd rfl h
theorem own_B.fails {P : Prop} {r : Int32} (a : own_B P r) (h : r = 0) : ¬ P := by
  rcases a with ⟨rfl, p⟩ | ⟨rfl, p⟩
  · exact absurd h (by decide)
  · exact p
theorem own_atJ (ws : List Int64) (i : Nat) : (ws.map Value.long).getD i (.long (0 : Int64)) = .long (ws.getD i 0) := by
  simp only [List.getD, List.getElem?_map]; cases ws[i]? <;> rfl
theorem own_atI (ws : List Int32) (i : Nat) : (ws.map Value.int).getD i (.int (0 : Int32)) = .int (ws.getD i 0) := by
  simp only [List.getD, List.getElem?_map]; cases ws[i]? <;> rfl
theorem own_selp {Z s : State} {a0 args : Array Value} {y : MethodName} {n : Nat} (hZ : Z.Warmed39 s.vm) (wi : (Jvm.Cond.instantiable y.cls n).before a0 Z = true) (wm : (Jvm.Cond.instanceMethod y).before a0 Z = true) (wp : (Jvm.Cond.privateMethod y).before a0 Z = true) (hy : y.cls ≠ "java/lang/invoke/MethodHandle" ∧ y.cls ≠ "java/lang/invoke/VarHandle") : (Jvm.Cond.selects y.cls y y).before args s = true := by
  have w1 : (Jvm.Cond.instantiable y.cls n).before args s = true := mvT hZ wi
  obtain ⟨c, k, h1, h2, h3, h4, -⟩ := Cond.instantiable_spec w1
  have h5 : k.isInterface = false := by cases hq : k.isInterface <;> simp [hq] at h4 ⊢
  exact selects_self_of_private h1 h2 h5 (Cond.privateMethod_at (mvP hZ wp (args := args))) (mvT hZ wm) hy
theorem own_hat {T : State} {h : Heap} {a : Addr} {c : Cell} (e : T.heap = h) (q : h[a]? = some c) : T.heap[a]? = some c := by rw [e]; exact q
theorem own_nn (x : Int32) : nar .byte (nar .byte x) = nar .byte x := by
  refine Int32.toInt_inj.mp ?_
  have a := c_i2b x
  have b := c_i2b x.toInt8.toInt32
  show x.toInt8.toInt32.toInt8.toInt32.toInt = x.toInt8.toInt32.toInt
  omega
theorem own_nb (x : Int32) : nar .byte x.toInt8.toInt32 = x.toInt8.toInt32 := own_nn x
theorem own_fit {x : Int32} (h : nar .byte x = x) : fits .byte (.int x) = true := by rw [← h]; exact fits_nar_byte x
theorem own_cl {j : Int32} {i : Nat} (h : j.toInt = (i : Int)) : j.toNatClampNeg = i := by rw [Int32.toNatClampNeg, h]; rfl
theorem own_lt {a b : Int32} (h : a.toInt < b.toInt) : a < b := Int32.lt_iff_toInt_lt.mpr h
theorem own_nlt {a b : Int32} (h : b.toInt ≤ a.toInt) : ¬ a < b := fun q => absurd (Int32.lt_iff_toInt_lt.mp q) (by omega)
theorem own_ltI {a b : Int32} (h : a < b) : a.toInt < b.toInt := Int32.lt_iff_toInt_lt.mp h
theorem own_nltI {a b : Int32} (h : ¬ a < b) : b.toInt ≤ a.toInt := by have := mt Int32.lt_iff_toInt_lt.mpr h; omega
theorem own_neI {a b : Int32} (h : ¬ a = b) : ¬ a.toInt = b.toInt := fun q => h (Int32.toInt_inj.mp q)
theorem own_ltL {a b : Int64} (h : a < b) : a.toInt < b.toInt := Int64.lt_iff_toInt_lt.mp h
theorem own_nltL {a b : Int64} (h : ¬ a < b) : b.toInt ≤ a.toInt := by have := mt Int64.lt_iff_toInt_lt.mpr h; omega
theorem own_neL {a b : Int64} (h : ¬ a = b) : ¬ a.toInt = b.toInt := fun q => h (Int64.toInt_inj.mp q)
def own_kind (i : Int32) (w1 w2 w3 w4 w5 : Addr) : Addr := if i = 0 then w1 else if i = 1 then w2 else if i = 2 then w3 else if i = 3 then w4 else w5
def own_val (g x n : Int32) : Int32 := if g = 0 then x else ((x <<< (((32 : Int32) - ((8 : Int32) * n)) &&& 31)) >>> (((32 : Int32) - ((8 : Int32) * n)) &&& 31))
theorem own_u (x n : Int32) : own_val 0 x n = x := if_pos rfl
theorem own_m5 {c j : Int32} (h : (c &&& (2147483647 : Int32)) % (5 : Int32) = j) : j = 0 ∨ j = 1 ∨ j = 2 ∨ j = 3 ∨ j = 4 := by
  have k : (c &&& (2147483647 : Int32)).toInt = c.toInt % 2147483648 := c_mask c 2147483647 31 (by decide) (by decide)
  have v := (c_irem (c &&& 2147483647) 5 5 (by decide)).1 (by omega)
  rw [h] at v
  have h' : j.toInt = 0 ∨ j.toInt = 1 ∨ j.toInt = 2 ∨ j.toInt = 3 ∨ j.toInt = 4 := by omega
  rcases h' with q | q | q | q | q
  · exact Or.inl (Int32.toInt_inj.mp q)
  · exact Or.inr (Or.inl (Int32.toInt_inj.mp q))
  · exact Or.inr (Or.inr (Or.inl (Int32.toInt_inj.mp q)))
  · exact Or.inr (Or.inr (Or.inr (Or.inl (Int32.toInt_inj.mp q))))
  · exact Or.inr (Or.inr (Or.inr (Or.inr (Int32.toInt_inj.mp q))))
theorem own_nbb {b n : Int32} (h : (1 : Int32) + (b &&& (1 : Int32)) = n) : n = 1 ∨ n = 2 := by
  have k : (b &&& (1 : Int32)).toInt = b.toInt % 2 := c_mask b 1 1 (by decide) (by decide)
  have a := c_iadd 1 (b &&& 1)
  have t1 : (1 : Int32).toInt = 1 := by decide
  rw [h, t1] at a
  have r := rng32 n
  have h' : n.toInt = 1 ∨ n.toInt = 2 := by omega
  rcases h' with q | q
  · exact Or.inl (Int32.toInt_inj.mp q)
  · exact Or.inr (Int32.toInt_inj.mp q)
theorem own_v1 {x u : Int32} (h : u &&& (255 : Int32) = x) : (own_val 1 x 1).toInt = if x.toInt < 128 then x.toInt else x.toInt - 256 := by
  have e : (u &&& (255 : Int32)).toInt = u.toInt % 256 := c_mask u 255 8 (by decide) (by decide)
  rw [h] at e
  have d : own_val 1 x 1 = ((x <<< (((32 : Int32) - ((8 : Int32) * 1)) &&& 31)) >>> (((32 : Int32) - ((8 : Int32) * 1)) &&& 31)) := if_neg (by decide)
  have s := c_ishl x ((32 : Int32) - ((8 : Int32) * 1)) 24 (by decide)
  have t := c_ishr (x <<< (((32 : Int32) - ((8 : Int32) * 1)) &&& 31)) ((32 : Int32) - ((8 : Int32) * 1)) 24 (by decide)
  rw [d, t]
  have r := rng32 (x <<< (((32 : Int32) - ((8 : Int32) * 1)) &&& 31))
  have s' : ((x <<< (((32 : Int32) - ((8 : Int32) * 1)) &&& 31)).toInt - x.toInt * 16777216) % 4294967296 = 0 := s
  show (x <<< (((32 : Int32) - ((8 : Int32) * 1)) &&& 31)).toInt / 16777216 = _
  generalize (x <<< (((32 : Int32) - ((8 : Int32) * 1)) &&& 31)).toInt = y at *
  split <;> omega
theorem own_v2 {x u : Int32} (h : u &&& (65535 : Int32) = x) : (own_val 1 x 2).toInt = if x.toInt < 32768 then x.toInt else x.toInt - 65536 := by
  have e : (u &&& (65535 : Int32)).toInt = u.toInt % 65536 := c_mask u 65535 16 (by decide) (by decide)
  rw [h] at e
  have d : own_val 1 x 2 = ((x <<< (((32 : Int32) - ((8 : Int32) * 2)) &&& 31)) >>> (((32 : Int32) - ((8 : Int32) * 2)) &&& 31)) := if_neg (by decide)
  have s := c_ishl x ((32 : Int32) - ((8 : Int32) * 2)) 16 (by decide)
  have t := c_ishr (x <<< (((32 : Int32) - ((8 : Int32) * 2)) &&& 31)) ((32 : Int32) - ((8 : Int32) * 2)) 16 (by decide)
  rw [d, t]
  have r := rng32 (x <<< (((32 : Int32) - ((8 : Int32) * 2)) &&& 31))
  have s' : ((x <<< (((32 : Int32) - ((8 : Int32) * 2)) &&& 31)).toInt - x.toInt * 65536) % 4294967296 = 0 := s
  show (x <<< (((32 : Int32) - ((8 : Int32) * 2)) &&& 31)).toInt / 65536 = _
  generalize (x <<< (((32 : Int32) - ((8 : Int32) * 2)) &&& 31)).toInt = y at *
  split <;> omega
theorem own_a1 {x u : Int32} (h : u &&& (255 : Int32) = x) (q : x < 128) : own_val 1 x 1 = x := by
  have q' : x.toInt < 128 := own_ltI q
  exact Int32.toInt_inj.mp (by rw [own_v1 h, if_pos q'])
theorem own_b1 {x u : Int32} (h : u &&& (255 : Int32) = x) (q : ¬ x < 128) : own_val 1 x 1 = x - 256 := by
  have q' : (128 : Int) ≤ x.toInt := own_nltI q
  have e : (u &&& (255 : Int32)).toInt = u.toInt % 256 := c_mask u 255 8 (by decide) (by decide)
  rw [h] at e
  refine Int32.toInt_inj.mp ?_
  rw [own_v1 h, if_neg (by omega)]
  have a := c_isub x 256
  have t : (256 : Int32).toInt = 256 := by decide
  have r := rng32 (x - 256)
  rw [t] at a
  omega
theorem own_a2 {x u : Int32} (h : u &&& (65535 : Int32) = x) (q : x < 32768) : own_val 1 x 2 = x := by
  have q' : x.toInt < 32768 := own_ltI q
  exact Int32.toInt_inj.mp (by rw [own_v2 h, if_pos q'])
theorem own_b2 {x u : Int32} (h : u &&& (65535 : Int32) = x) (q : ¬ x < 32768) : own_val 1 x 2 = x - 65536 := by
  have q' : (32768 : Int) ≤ x.toInt := own_nltI q
  have e : (u &&& (65535 : Int32)).toInt = u.toInt % 65536 := c_mask u 65535 16 (by decide) (by decide)
  rw [h] at e
  refine Int32.toInt_inj.mp ?_
  rw [own_v2 h, if_neg (by omega)]
  have a := c_isub x 65536
  have t : (65536 : Int32).toInt = 65536 := by decide
  have r := rng32 (x - 65536)
  rw [t] at a
  omega
theorem own_fld {args : Array Value} {s : State} {t : Term} {C n d : String} {a : Addr} {k : Int32} (ht : t.eval args s none [] s = some (.ref a)) (h : (Jvm.Cond.eq (Term.field t C n d) (Term.int k)).value args s none s [] = some true) : s.fieldOf? a C n d = some (.int k) := by
  obtain ⟨x, y, e1, e2, k1, -⟩ := cmp_v (Or.inl h)
  cases e2
  rw [fld_at ht] at e1
  cases x with
  | int z => 
    have q : (Jvm.Cond.eq (Term.field t C n d) (Term.int k)).value args s none s [] = some (decide (z = k)) := by simp [Cond.value, Term.eval, ht, e1]
    rw [q] at h
    have := of_decide_eq_true (Option.some.inj h)
    rw [e1, this]
  | _ => simp [Kin, Value.isRef] at k1
theorem own_k0 (w1 w2 w3 w4 w5 : Addr) : own_kind 0 w1 w2 w3 w4 w5 = w1 := by
  unfold own_kind
  rw [if_pos rfl]
theorem own_k1 (w1 w2 w3 w4 w5 : Addr) : own_kind 1 w1 w2 w3 w4 w5 = w2 := by
  unfold own_kind
  rw [if_neg (by decide), if_pos rfl]
theorem own_k2 (w1 w2 w3 w4 w5 : Addr) : own_kind 2 w1 w2 w3 w4 w5 = w3 := by
  unfold own_kind
  rw [if_neg (by decide), if_neg (by decide), if_pos rfl]
theorem own_k3 (w1 w2 w3 w4 w5 : Addr) : own_kind 3 w1 w2 w3 w4 w5 = w4 := by
  unfold own_kind
  rw [if_neg (by decide), if_neg (by decide), if_neg (by decide), if_pos rfl]
theorem own_k4 (w1 w2 w3 w4 w5 : Addr) : own_kind 4 w1 w2 w3 w4 w5 = w5 := by
  unfold own_kind
  rw [if_neg (by decide), if_neg (by decide), if_neg (by decide), if_neg (by decide)]
theorem d1_0 : decode method_2_code 0 = .ok (.iload_n 0, 1) := by decide +kernel
theorem d1_1 : decode method_2_code 1 = .ok (.ifCond .ne 7, 3) := by decide +kernel
theorem d1_4 : decode method_2_code 4 = .ok (.getstatic 7, 3) := by decide +kernel
theorem d1_7 : decode method_2_code 7 = .ok (.areturn, 1) := by decide +kernel
theorem d1_8 : decode method_2_code 8 = .ok (.iload_n 0, 1) := by decide +kernel
theorem d1_9 : decode method_2_code 9 = .ok (.iconst 1, 1) := by decide +kernel
theorem d1_10 : decode method_2_code 10 = .ok (.if_icmp .ne 7, 3) := by decide +kernel
theorem d1_13 : decode method_2_code 13 = .ok (.getstatic 13, 3) := by decide +kernel
theorem d1_16 : decode method_2_code 16 = .ok (.areturn, 1) := by decide +kernel
theorem d1_17 : decode method_2_code 17 = .ok (.iload_n 0, 1) := by decide +kernel
theorem d1_18 : decode method_2_code 18 = .ok (.iconst 2, 1) := by decide +kernel
theorem d1_19 : decode method_2_code 19 = .ok (.if_icmp .ne 7, 3) := by decide +kernel
theorem d1_22 : decode method_2_code 22 = .ok (.getstatic 16, 3) := by decide +kernel
theorem d1_25 : decode method_2_code 25 = .ok (.areturn, 1) := by decide +kernel
theorem d1_26 : decode method_2_code 26 = .ok (.iload_n 0, 1) := by decide +kernel
theorem d1_27 : decode method_2_code 27 = .ok (.iconst 3, 1) := by decide +kernel
theorem d1_28 : decode method_2_code 28 = .ok (.if_icmp .ne 7, 3) := by decide +kernel
theorem d1_31 : decode method_2_code 31 = .ok (.getstatic 19, 3) := by decide +kernel
theorem d1_34 : decode method_2_code 34 = .ok (.areturn, 1) := by decide +kernel
theorem d1_35 : decode method_2_code 35 = .ok (.getstatic 22, 3) := by decide +kernel
theorem d1_38 : decode method_2_code 38 = .ok (.areturn, 1) := by decide +kernel
theorem pn_1 : plainName "com/example/micrologue/micrologue/OperandKindValuePinLaw" = true := by first | (simp [plainName, overriddenIn]; done) | decide +kernel
theorem ef_1 (m : MethodId) (x0 : Int32) : entryFrame m #[(.int x0)] 1 = mkF m 0 #[.val (.int x0)] [] := by first | (simp [entryFrame, mkF, argsToLocals, Value.category]; done) | rfl
def Q1 (Z : State) (p1 : Int32) (w1 : Addr) (w2 : Addr) (w3 : Addr) (w4 : Addr) (w5 : Addr) (h0 : Heap) (n0 : Nat) (v : Option Value) (h : Heap) (L : List Loc) : Prop := ∃ (r : Addr), v = some (.ref r) ∧ (r = own_kind p1 w1 w2 w3 w4 w5) ∧ Fr n0 L ∧ h = h0
set_option maxRecDepth 65536 in
set_option maxHeartbeats 40000000 in
theorem rm1 (l : Launch) (Z : State) (a0 : Array Value) (hw : ∀ d ∈ tables_1, d.before a0 Z = true) (ws : List Jvm.Cond) (p1 : Int32) (w1 : Addr) (w2 : Addr) (w3 : Addr) (w4 : Addr) (w5 : Addr) (h0 : Heap) (n0 : Nat) (Z0 : n0 ≤ h0.size) (P0 : Sta Z h0 "com/example/micrologue/micrologue/OperandKind" "BYTE" "Lcom/example/micrologue/micrologue/OperandKind;" (.ref w1)) (P1 : Sta Z h0 "com/example/micrologue/micrologue/OperandKind" "CONST" "Lcom/example/micrologue/micrologue/OperandKind;" (.ref w2)) (P2 : Sta Z h0 "com/example/micrologue/micrologue/OperandKind" "VARNUM" "Lcom/example/micrologue/micrologue/OperandKind;" (.ref w3)) (P3 : Sta Z h0 "com/example/micrologue/micrologue/OperandKind" "OFFSET" "Lcom/example/micrologue/micrologue/OperandKind;" (.ref w4)) (P4 : Sta Z h0 "com/example/micrologue/micrologue/OperandKind" "INDEX" "Lcom/example/micrologue/micrologue/OperandKind;" (.ref w5)) :
    MetFree l (⟨"com/example/micrologue/micrologue/OperandKindValuePinLaw", "kindOf", "(I)Lcom/example/micrologue/micrologue/OperandKind;"⟩ : MethodName) (head1 (Jvm.Cond.code (⟨"com/example/micrologue/micrologue/OperandKindValuePinLaw", "kindOf", "(I)Lcom/example/micrologue/micrologue/OperandKind;"⟩ : MethodName) method_2_code 1 (some (.object "com/example/micrologue/micrologue/OperandKind")) :: ws) ({ frames := 0, cells := 0, slots := 0, locals := 0 } : Room)) (fun a U => a = #[(.int p1)] ∧ Z.Warmed39 U.vm ∧ U.heap = h0) (fun _ _ _ _ _ => True) (fun _ U o U' => ∃ v L, o = .returned v ∧ Q1 Z p1 w1 w2 w3 w4 w5 h0 n0 v U'.heap L ∧ FrameEnd U o U' L ({ frames := 0, cells := 0, slots := 0, locals := 0 } : Room).cells ({ frames := 0, cells := 0, slots := 0, locals := 0 } : Room).slots) := by
  refine MetFree.of_bodySF (plainFor_of_name pn_1) hisR ?_
  intro p e s m args below meth c s₁ Bd hml0 hP hK
  obtain ⟨rfl, hZ, hh⟩ := hP
  have hx := Bd.exec
  have hby := Bd.bytes
  have hml : c.maxLocals = 1 := hml0
  have hown : s.vm.findClass "com/example/micrologue/micrologue/OperandKindValuePinLaw" = some m.cls := findClass_of_methodNamed Bd.named
  have hnm := (name_of_methodNamed Bd.named Bd.method).1
  have X0 : Stand p l e ({ frames := 0, cells := 0, slots := 0, locals := 0 } : Room) s m #[(.int p1)] below meth c s₁ [] 0 0 := Stand.of_body Bd
  have e0 : s₁.heap = h0 := by rw [← hh, Bd.state]; rfl
  have N0 := Fr.nil n0
  suffices G0 : ∀ K : State → Prop, (∀ (n : State) (v : Option Value) (L : List Loc), n.status = .running → Ended n below (.returned v) → Q1 Z p1 w1 w2 w3 w4 w5 h0 n0 v n.heap L → FrameEnd s (.returned v) n L ({ frames := 0, cells := 0, slots := 0, locals := 0 } : Room).cells ({ frames := 0, cells := 0, slots := 0, locals := 0 } : Room).slots → K n) → own_Go p e below K (s₁.setTop (mkF m 0 #[.val (.int p1)] [])) by
    obtain ⟨t, st, o, a, b, v, L, e1, q, fe⟩ := G0 (fun n => ∃ o, n.status = .running ∧ Ended n below o ∧ ∃ v L, o = .returned v ∧ Q1 Z p1 w1 w2 w3 w4 w5 h0 n0 v n.heap L ∧ FrameEnd s o n L ({ frames := 0, cells := 0, slots := 0, locals := 0 } : Room).cells ({ frames := 0, cells := 0, slots := 0, locals := 0 } : Room).slots) (fun n v L a b q f => ⟨_, a, b, v, L, rfl, q, f⟩)
    exact ⟨t, o, castTop (ef_1 m p1) st, a, b, v, L, e1, q, fe⟩
  intro K fin
  show own_Go p e below K (s₁.setTop (mkF m 0 #[.val (.int p1)] []))
  refine own_st (fun t k => XS.iloadN X0.here hx rfl (hb hby d1_0) rfl k) ?_
  show own_Go p e below K (s₁.setTop (mkF m 1 #[.val (.int p1)] [(.int p1)]))
  by_cases hc1 : p1 = (0 : Int32)
  · refine own_st (fun t k => XS.ifNo X0.here hx rfl (hb hby d1_1) rfl ((if0 _ _).trans (teq hc1).2) k) ?_
    show own_Go p e below K (s₁.setTop (mkF m 4 #[.val (.int p1)] []))
    obtain ⟨T1, X1, e1, st1⟩ := getS2 X0 hx hZ hown (host := "") (Or.inl (hw _ (List.mem_of_getElem? (i := 5) rfl))) Via.refl e0 P0 (g := (mkF m 4 #[.val (.int p1)] [])) rfl (hb hby d1_4)
    refine own_st st1 ?_
    show own_Go p e below K (T1.setTop (mkF m 7 #[.val (.int p1)] [(.ref w1)]))
    obtain ⟨fs, hr, hrun, hended, hW, hsame⟩ := X1.leave (v := some (.ref w1)) (fun h => by rw [Bd.returns] at h; cases h)
    refine ⟨_, X1.areturnOut hx rfl Bd.returns rfl (hb hby d1_7) hr, fin _ _ _ hrun hended ?_ ⟨⟨_, rfl⟩, hW, hsame.mono (by decide) (by decide)⟩⟩
    show Q1 Z p1 w1 w2 w3 w4 w5 h0 n0 _ T1.heap _
    rw [e1]
    exact ⟨_, rfl, (by unfold own_kind; rw [if_pos hc1]), N0, rfl⟩
  refine own_st (fun t k => XS.ifYes X0.here hx rfl (pc0 := 1) (pc' := 8) rfl (hb hby d1_1) rfl ((if0 _ _).trans (feq hc1).2) (by decide) (by decide) k) ?_
  show own_Go p e below K (s₁.setTop (mkF m 8 #[.val (.int p1)] []))
  refine own_st (fun t k => XS.iloadN X0.here hx rfl (hb hby d1_8) rfl k) ?_
  show own_Go p e below K (s₁.setTop (mkF m 9 #[.val (.int p1)] [(.int p1)]))
  refine own_st (fun t k => XS.iconst X0.here hx rfl (hb hby d1_9) k) ?_
  show own_Go p e below K (s₁.setTop (mkF m 10 #[.val (.int p1)] [(.int (1 : Int32)), (.int p1)]))
  by_cases hc10 : p1 = (1 : Int32)
  · refine own_st (fun t k => XS.icmpNo X0.here hx rfl (hb hby d1_10) rfl (teq hc10).2 k) ?_
    show own_Go p e below K (s₁.setTop (mkF m 13 #[.val (.int p1)] []))
    obtain ⟨T2, X2, e2, st2⟩ := getS2 X0 hx hZ hown (host := "") (Or.inl (hw _ (List.mem_of_getElem? (i := 17) rfl))) Via.refl e0 P1 (g := (mkF m 13 #[.val (.int p1)] [])) rfl (hb hby d1_13)
    refine own_st st2 ?_
    show own_Go p e below K (T2.setTop (mkF m 16 #[.val (.int p1)] [(.ref w2)]))
    obtain ⟨fs, hr, hrun, hended, hW, hsame⟩ := X2.leave (v := some (.ref w2)) (fun h => by rw [Bd.returns] at h; cases h)
    refine ⟨_, X2.areturnOut hx rfl Bd.returns rfl (hb hby d1_16) hr, fin _ _ _ hrun hended ?_ ⟨⟨_, rfl⟩, hW, hsame.mono (by decide) (by decide)⟩⟩
    show Q1 Z p1 w1 w2 w3 w4 w5 h0 n0 _ T2.heap _
    rw [e2]
    exact ⟨_, rfl, (by unfold own_kind; rw [if_neg hc1, if_pos hc10]), N0, rfl⟩
  refine own_st (fun t k => XS.icmpYes X0.here hx rfl (pc0 := 10) (pc' := 17) rfl (hb hby d1_10) rfl (feq hc10).2 (by decide) (by decide) k) ?_
  show own_Go p e below K (s₁.setTop (mkF m 17 #[.val (.int p1)] []))
  refine own_st (fun t k => XS.iloadN X0.here hx rfl (hb hby d1_17) rfl k) ?_
  show own_Go p e below K (s₁.setTop (mkF m 18 #[.val (.int p1)] [(.int p1)]))
  refine own_st (fun t k => XS.iconst X0.here hx rfl (hb hby d1_18) k) ?_
  show own_Go p e below K (s₁.setTop (mkF m 19 #[.val (.int p1)] [(.int (2 : Int32)), (.int p1)]))
  by_cases hc19 : p1 = (2 : Int32)
  · refine own_st (fun t k => XS.icmpNo X0.here hx rfl (hb hby d1_19) rfl (teq hc19).2 k) ?_
    show own_Go p e below K (s₁.setTop (mkF m 22 #[.val (.int p1)] []))
    obtain ⟨T3, X3, e3, st3⟩ := getS2 X0 hx hZ hown (host := "") (Or.inl (hw _ (List.mem_of_getElem? (i := 23) rfl))) Via.refl e0 P2 (g := (mkF m 22 #[.val (.int p1)] [])) rfl (hb hby d1_22)
    refine own_st st3 ?_
    show own_Go p e below K (T3.setTop (mkF m 25 #[.val (.int p1)] [(.ref w3)]))
    obtain ⟨fs, hr, hrun, hended, hW, hsame⟩ := X3.leave (v := some (.ref w3)) (fun h => by rw [Bd.returns] at h; cases h)
    refine ⟨_, X3.areturnOut hx rfl Bd.returns rfl (hb hby d1_25) hr, fin _ _ _ hrun hended ?_ ⟨⟨_, rfl⟩, hW, hsame.mono (by decide) (by decide)⟩⟩
    show Q1 Z p1 w1 w2 w3 w4 w5 h0 n0 _ T3.heap _
    rw [e3]
    exact ⟨_, rfl, (by unfold own_kind; rw [if_neg hc1, if_neg hc10, if_pos hc19]), N0, rfl⟩
  refine own_st (fun t k => XS.icmpYes X0.here hx rfl (pc0 := 19) (pc' := 26) rfl (hb hby d1_19) rfl (feq hc19).2 (by decide) (by decide) k) ?_
  show own_Go p e below K (s₁.setTop (mkF m 26 #[.val (.int p1)] []))
  refine own_st (fun t k => XS.iloadN X0.here hx rfl (hb hby d1_26) rfl k) ?_
  show own_Go p e below K (s₁.setTop (mkF m 27 #[.val (.int p1)] [(.int p1)]))
  refine own_st (fun t k => XS.iconst X0.here hx rfl (hb hby d1_27) k) ?_
  show own_Go p e below K (s₁.setTop (mkF m 28 #[.val (.int p1)] [(.int (3 : Int32)), (.int p1)]))
  by_cases hc28 : p1 = (3 : Int32)
  · refine own_st (fun t k => XS.icmpNo X0.here hx rfl (hb hby d1_28) rfl (teq hc28).2 k) ?_
    show own_Go p e below K (s₁.setTop (mkF m 31 #[.val (.int p1)] []))
    obtain ⟨T4, X4, e4, st4⟩ := getS2 X0 hx hZ hown (host := "") (Or.inl (hw _ (List.mem_of_getElem? (i := 21) rfl))) Via.refl e0 P3 (g := (mkF m 31 #[.val (.int p1)] [])) rfl (hb hby d1_31)
    refine own_st st4 ?_
    show own_Go p e below K (T4.setTop (mkF m 34 #[.val (.int p1)] [(.ref w4)]))
    obtain ⟨fs, hr, hrun, hended, hW, hsame⟩ := X4.leave (v := some (.ref w4)) (fun h => by rw [Bd.returns] at h; cases h)
    refine ⟨_, X4.areturnOut hx rfl Bd.returns rfl (hb hby d1_34) hr, fin _ _ _ hrun hended ?_ ⟨⟨_, rfl⟩, hW, hsame.mono (by decide) (by decide)⟩⟩
    show Q1 Z p1 w1 w2 w3 w4 w5 h0 n0 _ T4.heap _
    rw [e4]
    exact ⟨_, rfl, (by unfold own_kind; rw [if_neg hc1, if_neg hc10, if_neg hc19, if_pos hc28]), N0, rfl⟩
  refine own_st (fun t k => XS.icmpYes X0.here hx rfl (pc0 := 28) (pc' := 35) rfl (hb hby d1_28) rfl (feq hc28).2 (by decide) (by decide) k) ?_
  show own_Go p e below K (s₁.setTop (mkF m 35 #[.val (.int p1)] []))
  obtain ⟨T5, X5, e5, st5⟩ := getS2 X0 hx hZ hown (host := "") (Or.inl (hw _ (List.mem_of_getElem? (i := 19) rfl))) Via.refl e0 P4 (g := (mkF m 35 #[.val (.int p1)] [])) rfl (hb hby d1_35)
  refine own_st st5 ?_
  show own_Go p e below K (T5.setTop (mkF m 38 #[.val (.int p1)] [(.ref w5)]))
  obtain ⟨fs, hr, hrun, hended, hW, hsame⟩ := X5.leave (v := some (.ref w5)) (fun h => by rw [Bd.returns] at h; cases h)
  refine ⟨_, X5.areturnOut hx rfl Bd.returns rfl (hb hby d1_38) hr, fin _ _ _ hrun hended ?_ ⟨⟨_, rfl⟩, hW, hsame.mono (by decide) (by decide)⟩⟩
  show Q1 Z p1 w1 w2 w3 w4 w5 h0 n0 _ T5.heap _
  rw [e5]
  exact ⟨_, rfl, (by unfold own_kind; rw [if_neg hc1, if_neg hc10, if_neg hc19, if_neg hc28]), N0, rfl⟩
theorem d2_0 : decode prog_75_method_8_code 0 = .ok (.bipush 32, 2) := by decide +kernel
theorem d2_2 : decode prog_75_method_8_code 2 = .ok (.bipush 8, 2) := by decide +kernel
theorem d2_4 : decode prog_75_method_8_code 4 = .ok (.iload_n 2, 1) := by decide +kernel
theorem d2_5 : decode prog_75_method_8_code 5 = .ok (.imul, 1) := by decide +kernel
theorem d2_6 : decode prog_75_method_8_code 6 = .ok (.isub, 1) := by decide +kernel
theorem d2_7 : decode prog_75_method_8_code 7 = .ok (.istore_n 3, 1) := by decide +kernel
theorem d2_8 : decode prog_75_method_8_code 8 = .ok (.aload_n 0, 1) := by decide +kernel
theorem d2_9 : decode prog_75_method_8_code 9 = .ok (.getfield 45, 3) := by decide +kernel
theorem d2_12 : decode prog_75_method_8_code 12 = .ok (.ifCond .eq 11, 3) := by decide +kernel
theorem d2_15 : decode prog_75_method_8_code 15 = .ok (.iload_n 1, 1) := by decide +kernel
theorem d2_16 : decode prog_75_method_8_code 16 = .ok (.iload_n 3, 1) := by decide +kernel
theorem d2_17 : decode prog_75_method_8_code 17 = .ok (.ishl, 1) := by decide +kernel
theorem d2_18 : decode prog_75_method_8_code 18 = .ok (.iload_n 3, 1) := by decide +kernel
theorem d2_19 : decode prog_75_method_8_code 19 = .ok (.ishr, 1) := by decide +kernel
theorem d2_20 : decode prog_75_method_8_code 20 = .ok (.goto 4, 3) := by decide +kernel
theorem d2_23 : decode prog_75_method_8_code 23 = .ok (.iload_n 1, 1) := by decide +kernel
theorem d2_24 : decode prog_75_method_8_code 24 = .ok (.ireturn, 1) := by decide +kernel
theorem pn_2 : plainName "com/example/micrologue/micrologue/OperandKind" = true := by first | (simp [plainName, overriddenIn]; done) | decide +kernel
theorem ef_2 (m : MethodId) (x0 : Addr) (x1 : Int32) (x2 : Int32) : entryFrame m #[(.ref x0), (.int x1), (.int x2)] 4 = mkF m 0 #[.val (.ref x0), .val (.int x1), .val (.int x2), .unset] [] := by first | (simp [entryFrame, mkF, argsToLocals, Value.category]; done) | rfl
def Q2 (Z : State) (a1 : Addr) (p2 : Int32) (p3 : Int32) (xg : Int32) (h0 : Heap) (n0 : Nat) (v : Option Value) (h : Heap) (L : List Loc) : Prop := ∃ (r : Int32), v = some (.int r) ∧ (r = own_val xg p2 p3) ∧ Fr n0 L ∧ h = h0
set_option maxRecDepth 65536 in
set_option maxHeartbeats 40000000 in
theorem rm2 (l : Launch) (Z : State) (a0 : Array Value) (hw : ∀ d ∈ tables_1, d.before a0 Z = true) (ws : List Jvm.Cond) (a1 : Addr) (p2 : Int32) (p3 : Int32) (xg : Int32) (h0 : Heap) (n0 : Nat) (Z0 : n0 ≤ h0.size) (P0 : Fld Z h0 a1 "com/example/micrologue/micrologue/OperandKind" "signed" "Z" (.int xg)) :
    MetFree l (⟨"com/example/micrologue/micrologue/OperandKind", "value", "(II)I"⟩ : MethodName) (head1 (Jvm.Cond.code (⟨"com/example/micrologue/micrologue/OperandKind", "value", "(II)I"⟩ : MethodName) prog_75_method_8_code 4 (some .int) :: ws) ({ frames := 0, cells := 0, slots := 0, locals := 0 } : Room)) (fun a U => a = #[(.ref a1), (.int p2), (.int p3)] ∧ Z.Warmed39 U.vm ∧ U.heap = h0) (fun _ _ _ _ _ => True) (fun _ U o U' => ∃ v L, o = .returned v ∧ Q2 Z a1 p2 p3 xg h0 n0 v U'.heap L ∧ FrameEnd U o U' L ({ frames := 0, cells := 0, slots := 0, locals := 0 } : Room).cells ({ frames := 0, cells := 0, slots := 0, locals := 0 } : Room).slots) := by
  refine MetFree.of_bodySF (plainFor_of_name pn_2) hisR ?_
  intro p e s m args below meth c s₁ Bd hml0 hP hK
  obtain ⟨rfl, hZ, hh⟩ := hP
  have hx := Bd.exec
  have hby := Bd.bytes
  have hml : c.maxLocals = 4 := hml0
  have hown : s.vm.findClass "com/example/micrologue/micrologue/OperandKind" = some m.cls := findClass_of_methodNamed Bd.named
  have hnm := (name_of_methodNamed Bd.named Bd.method).1
  have X0 : Stand p l e ({ frames := 0, cells := 0, slots := 0, locals := 0 } : Room) s m #[(.ref a1), (.int p2), (.int p3)] below meth c s₁ [] 0 0 := Stand.of_body Bd
  have e0 : s₁.heap = h0 := by rw [← hh, Bd.state]; rfl
  have N0 := Fr.nil n0
  suffices G0 : ∀ K : State → Prop, (∀ (n : State) (v : Option Value) (L : List Loc), n.status = .running → Ended n below (.returned v) → Q2 Z a1 p2 p3 xg h0 n0 v n.heap L → FrameEnd s (.returned v) n L ({ frames := 0, cells := 0, slots := 0, locals := 0 } : Room).cells ({ frames := 0, cells := 0, slots := 0, locals := 0 } : Room).slots → K n) → own_Go p e below K (s₁.setTop (mkF m 0 #[.val (.ref a1), .val (.int p2), .val (.int p3), .unset] [])) by
    obtain ⟨t, st, o, a, b, v, L, e1, q, fe⟩ := G0 (fun n => ∃ o, n.status = .running ∧ Ended n below o ∧ ∃ v L, o = .returned v ∧ Q2 Z a1 p2 p3 xg h0 n0 v n.heap L ∧ FrameEnd s o n L ({ frames := 0, cells := 0, slots := 0, locals := 0 } : Room).cells ({ frames := 0, cells := 0, slots := 0, locals := 0 } : Room).slots) (fun n v L a b q f => ⟨_, a, b, v, L, rfl, q, f⟩)
    exact ⟨t, o, castTop (ef_2 m a1 p2 p3) st, a, b, v, L, e1, q, fe⟩
  intro K fin
  show own_Go p e below K (s₁.setTop (mkF m 0 #[.val (.ref a1), .val (.int p2), .val (.int p3), .unset] []))
  refine own_st (fun t k => XS.bipush X0.here hx rfl (hb hby d2_0) k) ?_
  show own_Go p e below K (s₁.setTop (mkF m 2 #[.val (.ref a1), .val (.int p2), .val (.int p3), .unset] [(.int (32 : Int32))]))
  refine own_st (fun t k => XS.bipush X0.here hx rfl (hb hby d2_2) k) ?_
  show own_Go p e below K (s₁.setTop (mkF m 4 #[.val (.ref a1), .val (.int p2), .val (.int p3), .unset] [(.int (8 : Int32)), (.int (32 : Int32))]))
  refine own_st (fun t k => XS.iloadN X0.here hx rfl (hb hby d2_4) rfl k) ?_
  show own_Go p e below K (s₁.setTop (mkF m 5 #[.val (.ref a1), .val (.int p2), .val (.int p3), .unset] [(.int p3), (.int (8 : Int32)), (.int (32 : Int32))]))
  refine own_st (fun t k => XS.imul X0.here hx rfl (hb hby d2_5) rfl k) ?_
  show own_Go p e below K (s₁.setTop (mkF m 6 #[.val (.ref a1), .val (.int p2), .val (.int p3), .unset] [(.int ((8 : Int32) * p3)), (.int (32 : Int32))]))
  refine own_st (fun t k => XS.isub X0.here hx rfl (hb hby d2_6) rfl k) ?_
  show own_Go p e below K (s₁.setTop (mkF m 7 #[.val (.ref a1), .val (.int p2), .val (.int p3), .unset] [(.int ((32 : Int32) - ((8 : Int32) * p3)))]))
  refine own_st (fun t k => XS.istoreN X0.here hx rfl (hb hby d2_7) rfl (l' := #[.val (.ref a1), .val (.int p2), .val (.int p3), .val (.int ((32 : Int32) - ((8 : Int32) * p3)))]) rfl k) ?_
  show own_Go p e below K (s₁.setTop (mkF m 8 #[.val (.ref a1), .val (.int p2), .val (.int p3), .val (.int ((32 : Int32) - ((8 : Int32) * p3)))] []))
  refine own_st (fun t k => XS.aloadN X0.here hx rfl (hb hby d2_8) rfl rfl k) ?_
  show own_Go p e below K (s₁.setTop (mkF m 9 #[.val (.ref a1), .val (.int p2), .val (.int p3), .val (.int ((32 : Int32) - ((8 : Int32) * p3)))] [(.ref a1)]))
  obtain ⟨T1, X1, e1, st1⟩ := getF X0 hx hZ hown (host := "") (Or.inl (hw _ (List.mem_of_getElem? (i := 15) rfl))) Via.refl e0 P0 (g := (mkF m 9 #[.val (.ref a1), .val (.int p2), .val (.int p3), .val (.int ((32 : Int32) - ((8 : Int32) * p3)))] [(.ref a1)])) rfl rfl (hb hby d2_9)
  refine own_st st1 ?_
  show own_Go p e below K (T1.setTop (mkF m 12 #[.val (.ref a1), .val (.int p2), .val (.int p3), .val (.int ((32 : Int32) - ((8 : Int32) * p3)))] [(.int xg)]))
  by_cases hc12 : xg = (0 : Int32)
  · refine own_st (fun t k => XS.ifYes X1.here hx rfl (pc0 := 12) (pc' := 23) rfl (hb hby d2_12) rfl ((if0 _ _).trans (teq hc12).1) (by decide) (by decide) k) ?_
    show own_Go p e below K (T1.setTop (mkF m 23 #[.val (.ref a1), .val (.int p2), .val (.int p3), .val (.int ((32 : Int32) - ((8 : Int32) * p3)))] []))
    refine own_st (fun t k => XS.iloadN X1.here hx rfl (hb hby d2_23) rfl k) ?_
    show own_Go p e below K (T1.setTop (mkF m 24 #[.val (.ref a1), .val (.int p2), .val (.int p3), .val (.int ((32 : Int32) - ((8 : Int32) * p3)))] [(.int p2)]))
    obtain ⟨fs, hr, hrun, hended, hW, hsame⟩ := X1.leave (v := some (.int p2)) (fun h => by rw [Bd.returns] at h; cases h)
    refine ⟨_, retI X1 hx Bd.returns (hb hby d2_24) hr, fin _ _ _ hrun hended ?_ ⟨⟨_, rfl⟩, hW, hsame.mono (by decide) (by decide)⟩⟩
    show Q2 Z a1 p2 p3 xg h0 n0 _ T1.heap _
    rw [e1]
    exact ⟨_, rfl, (if_pos hc12).symm, N0, rfl⟩
  refine own_st (fun t k => XS.ifNo X1.here hx rfl (hb hby d2_12) rfl ((if0 _ _).trans (feq hc12).1) k) ?_
  show own_Go p e below K (T1.setTop (mkF m 15 #[.val (.ref a1), .val (.int p2), .val (.int p3), .val (.int ((32 : Int32) - ((8 : Int32) * p3)))] []))
  refine own_st (fun t k => XS.iloadN X1.here hx rfl (hb hby d2_15) rfl k) ?_
  show own_Go p e below K (T1.setTop (mkF m 16 #[.val (.ref a1), .val (.int p2), .val (.int p3), .val (.int ((32 : Int32) - ((8 : Int32) * p3)))] [(.int p2)]))
  refine own_st (fun t k => XS.iloadN X1.here hx rfl (hb hby d2_16) rfl k) ?_
  show own_Go p e below K (T1.setTop (mkF m 17 #[.val (.ref a1), .val (.int p2), .val (.int p3), .val (.int ((32 : Int32) - ((8 : Int32) * p3)))] [(.int ((32 : Int32) - ((8 : Int32) * p3))), (.int p2)]))
  refine own_st (fun t k => XS.ishl X1.here hx rfl (hb hby d2_17) rfl k) ?_
  show own_Go p e below K (T1.setTop (mkF m 18 #[.val (.ref a1), .val (.int p2), .val (.int p3), .val (.int ((32 : Int32) - ((8 : Int32) * p3)))] [(.int (p2 <<< (((32 : Int32) - ((8 : Int32) * p3)) &&& 31)))]))
  refine own_st (fun t k => XS.iloadN X1.here hx rfl (hb hby d2_18) rfl k) ?_
  show own_Go p e below K (T1.setTop (mkF m 19 #[.val (.ref a1), .val (.int p2), .val (.int p3), .val (.int ((32 : Int32) - ((8 : Int32) * p3)))] [(.int ((32 : Int32) - ((8 : Int32) * p3))), (.int (p2 <<< (((32 : Int32) - ((8 : Int32) * p3)) &&& 31)))]))
  refine own_st (fun t k => XS.ishr X1.here hx rfl (hb hby d2_19) rfl k) ?_
  show own_Go p e below K (T1.setTop (mkF m 20 #[.val (.ref a1), .val (.int p2), .val (.int p3), .val (.int ((32 : Int32) - ((8 : Int32) * p3)))] [(.int ((p2 <<< (((32 : Int32) - ((8 : Int32) * p3)) &&& 31)) >>> (((32 : Int32) - ((8 : Int32) * p3)) &&& 31)))]))
  refine own_st (fun t k => XS.goto X1.here hx rfl (pc0 := 20) (pc' := 24) rfl (hb hby d2_20) (by decide) (by decide) k) ?_
  show own_Go p e below K (T1.setTop (mkF m 24 #[.val (.ref a1), .val (.int p2), .val (.int p3), .val (.int ((32 : Int32) - ((8 : Int32) * p3)))] [(.int ((p2 <<< (((32 : Int32) - ((8 : Int32) * p3)) &&& 31)) >>> (((32 : Int32) - ((8 : Int32) * p3)) &&& 31)))]))
  obtain ⟨fs, hr, hrun, hended, hW, hsame⟩ := X1.leave (v := some (.int ((p2 <<< (((32 : Int32) - ((8 : Int32) * p3)) &&& 31)) >>> (((32 : Int32) - ((8 : Int32) * p3)) &&& 31)))) (fun h => by rw [Bd.returns] at h; cases h)
  refine ⟨_, retI X1 hx Bd.returns (hb hby d2_24) hr, fin _ _ _ hrun hended ?_ ⟨⟨_, rfl⟩, hW, hsame.mono (by decide) (by decide)⟩⟩
  show Q2 Z a1 p2 p3 xg h0 n0 _ T1.heap _
  rw [e1]
  exact ⟨_, rfl, (if_neg hc12).symm, N0, rfl⟩
theorem pn_0 : plainName "com/example/micrologue/micrologue/OperandKindValuePinLaw" = true := by first | (simp [plainName, overriddenIn]; done) | decide +kernel
theorem pd_0_0 : parseMethodDescriptor "(I)Lcom/example/micrologue/micrologue/OperandKind;" = some ⟨[.int], some (.object "com/example/micrologue/micrologue/OperandKind")⟩ := by decide +kernel
theorem pd_0_1 : parseMethodDescriptor "(II)I" = some ⟨[.int, .int], some .int⟩ := by decide +kernel
theorem ef_0 (m : MethodId) (x0 : Int32) (x1 : Int32) (x2 : Int32) : entryFrame m #[(.int x0), (.int x1), (.int x2)] maxLocals = mkF m 0 #[.val (.int x0), .val (.int x1), .val (.int x2), .unset, .unset, .unset, .unset, .unset, .unset, .unset, .unset] [] := by first | (simp [entryFrame, mkF, argsToLocals, Value.category, maxLocals]; done) | rfl
def Q0 (Z : State) (p1 : Int32) (p2 : Int32) (p3 : Int32) (w1 : Addr) (w2 : Addr) (w3 : Addr) (w4 : Addr) (w5 : Addr) (h0 : Heap) (n0 : Nat) (v : Option Value) (h : Heap) (L : List Loc) : Prop := v = some (.int 1) ∧ Fr n0 L
set_option maxRecDepth 65536 in
set_option maxHeartbeats 40000000 in
theorem rm0 (l : Launch) (Z : State) (a0 : Array Value) (hw : ∀ d ∈ tables_1, d.before a0 Z = true) (ws : List Jvm.Cond) (p1 : Int32) (p2 : Int32) (p3 : Int32) (w1 : Addr) (w2 : Addr) (w3 : Addr) (w4 : Addr) (w5 : Addr) (h0 : Heap) (n0 : Nat) (Z0 : n0 ≤ h0.size) (P0 : Sta Z h0 "com/example/micrologue/micrologue/OperandKind" "BYTE" "Lcom/example/micrologue/micrologue/OperandKind;" (.ref w1)) (P1 : Sta Z h0 "com/example/micrologue/micrologue/OperandKind" "CONST" "Lcom/example/micrologue/micrologue/OperandKind;" (.ref w2)) (P2 : Sta Z h0 "com/example/micrologue/micrologue/OperandKind" "VARNUM" "Lcom/example/micrologue/micrologue/OperandKind;" (.ref w3)) (P3 : Sta Z h0 "com/example/micrologue/micrologue/OperandKind" "OFFSET" "Lcom/example/micrologue/micrologue/OperandKind;" (.ref w4)) (P4 : Sta Z h0 "com/example/micrologue/micrologue/OperandKind" "INDEX" "Lcom/example/micrologue/micrologue/OperandKind;" (.ref w5)) (P5 : Exa Z h0 w1 "com/example/micrologue/micrologue/OperandKind") (P6 : Exa Z h0 w2 "com/example/micrologue/micrologue/OperandKind") (P7 : Exa Z h0 w3 "com/example/micrologue/micrologue/OperandKind") (P8 : Exa Z h0 w4 "com/example/micrologue/micrologue/OperandKind") (P9 : Exa Z h0 w5 "com/example/micrologue/micrologue/OperandKind") (P10 : Fld Z h0 w1 "com/example/micrologue/micrologue/OperandKind" "signed" "Z" (.int (1 : Int32))) (P11 : Fld Z h0 w2 "com/example/micrologue/micrologue/OperandKind" "signed" "Z" (.int (1 : Int32))) (P12 : Fld Z h0 w3 "com/example/micrologue/micrologue/OperandKind" "signed" "Z" (.int (0 : Int32))) (P13 : Fld Z h0 w4 "com/example/micrologue/micrologue/OperandKind" "signed" "Z" (.int (1 : Int32))) (P14 : Fld Z h0 w5 "com/example/micrologue/micrologue/OperandKind" "signed" "Z" (.int (0 : Int32))) :
    MetFree l x (head1 (Jvm.Cond.code x code maxLocals ret :: ws) room_1) (fun a U => a = #[(.int p1), (.int p2), (.int p3)] ∧ Z.Warmed39 U.vm ∧ U.heap = h0) (fun _ _ _ _ _ => True) (fun _ U o U' => ∃ v L, o = .returned v ∧ Q0 Z p1 p2 p3 w1 w2 w3 w4 w5 h0 n0 v U'.heap L ∧ FrameEnd U o U' L 0 0) := by
  refine MetFree.of_bodySF (plainFor_of_name pn_0) hisR ?_
  intro p e s m args below meth c s₁ Bd hml0 hP hK
  obtain ⟨rfl, hZ, hh⟩ := hP
  have hx := Bd.exec
  have hby := Bd.bytes
  have hml : c.maxLocals = 11 := hml0
  have hown : s.vm.findClass "com/example/micrologue/micrologue/OperandKindValuePinLaw" = some m.cls := findClass_of_methodNamed Bd.named
  have hnm := (name_of_methodNamed Bd.named Bd.method).1
  have X0 : Stand p l e room_1 s m #[(.int p1), (.int p2), (.int p3)] below meth c s₁ [] 0 0 := Stand.of_body Bd
  have e0 : s₁.heap = h0 := by rw [← hh, Bd.state]; rfl
  have N0 := Fr.nil n0
  suffices G0 : ∀ K : State → Prop, (∀ (n : State) (v : Option Value) (L : List Loc), n.status = .running → Ended n below (.returned v) → Q0 Z p1 p2 p3 w1 w2 w3 w4 w5 h0 n0 v n.heap L → FrameEnd s (.returned v) n L 0 0 → K n) → own_Go p e below K (s₁.setTop (mkF m 0 #[.val (.int p1), .val (.int p2), .val (.int p3), .unset, .unset, .unset, .unset, .unset, .unset, .unset, .unset] [])) by
    obtain ⟨t, st, o, a, b, v, L, e1, q, fe⟩ := G0 (fun n => ∃ o, n.status = .running ∧ Ended n below o ∧ ∃ v L, o = .returned v ∧ Q0 Z p1 p2 p3 w1 w2 w3 w4 w5 h0 n0 v n.heap L ∧ FrameEnd s o n L 0 0) (fun n v L a b q f => ⟨_, a, b, v, L, rfl, q, f⟩)
    exact ⟨t, o, castTop (ef_0 m p1 p2 p3) st, a, b, v, L, e1, q, fe⟩
  intro K fin
  show own_Go p e below K (s₁.setTop (mkF m 0 #[.val (.int p1), .val (.int p2), .val (.int p3), .unset, .unset, .unset, .unset, .unset, .unset, .unset, .unset] []))
  refine own_st (fun t k => XS.iloadN X0.here hx rfl (hb hby at_0) rfl k) ?_
  show own_Go p e below K (s₁.setTop (mkF m 1 #[.val (.int p1), .val (.int p2), .val (.int p3), .unset, .unset, .unset, .unset, .unset, .unset, .unset, .unset] [(.int p1)]))
  refine own_st (X0.ldcInt hx hown (mvT hZ (hw _ (List.mem_of_getElem? (i := 0) rfl))) (g := (mkF m 1 #[.val (.int p1), .val (.int p2), .val (.int p3), .unset, .unset, .unset, .unset, .unset, .unset, .unset, .unset] [(.int p1)])) rfl (hb hby at_1)) ?_
  show own_Go p e below K (s₁.setTop (mkF m 3 #[.val (.int p1), .val (.int p2), .val (.int p3), .unset, .unset, .unset, .unset, .unset, .unset, .unset, .unset] [(.int (2147483647 : Int32)), (.int p1)]))
  refine own_st (fun t k => XS.iand X0.here hx rfl (hb hby at_3) rfl k) ?_
  show own_Go p e below K (s₁.setTop (mkF m 4 #[.val (.int p1), .val (.int p2), .val (.int p3), .unset, .unset, .unset, .unset, .unset, .unset, .unset, .unset] [(.int (p1 &&& (2147483647 : Int32)))]))
  refine own_st (fun t k => XS.iconst X0.here hx rfl (hb hby at_4) k) ?_
  show own_Go p e below K (s₁.setTop (mkF m 5 #[.val (.int p1), .val (.int p2), .val (.int p3), .unset, .unset, .unset, .unset, .unset, .unset, .unset, .unset] [(.int (5 : Int32)), (.int (p1 &&& (2147483647 : Int32)))]))
  refine own_st (fun t k => iremM X0 hx rfl (hb hby at_5) rfl (by decide) k) ?_
  show own_Go p e below K (s₁.setTop (mkF m 6 #[.val (.int p1), .val (.int p2), .val (.int p3), .unset, .unset, .unset, .unset, .unset, .unset, .unset, .unset] [(.int ((p1 &&& (2147483647 : Int32)) % (5 : Int32)))]))
  generalize hix : ((p1 &&& (2147483647 : Int32)) % (5 : Int32)) = ix
  show own_Go p e below K (s₁.setTop (mkF m 6 #[.val (.int p1), .val (.int p2), .val (.int p3), .unset, .unset, .unset, .unset, .unset, .unset, .unset, .unset] [(.int ix)]))
  rcases own_m5 hix with hs | hs | hs | hs | hs
  · subst hs
    show own_Go p e below K (s₁.setTop (mkF m 6 #[.val (.int p1), .val (.int p2), .val (.int p3), .unset, .unset, .unset, .unset, .unset, .unset, .unset, .unset] [(.int (0 : Int32))]))
    refine own_st (fun t k => XS.istoreN X0.here hx rfl (hb hby at_6) rfl (l' := #[.val (.int p1), .val (.int p2), .val (.int p3), .val (.int (0 : Int32)), .unset, .unset, .unset, .unset, .unset, .unset, .unset]) rfl k) ?_
    show own_Go p e below K (s₁.setTop (mkF m 7 #[.val (.int p1), .val (.int p2), .val (.int p3), .val (.int (0 : Int32)), .unset, .unset, .unset, .unset, .unset, .unset, .unset] []))
    refine own_st (fun t k => XS.iloadN X0.here hx rfl (hb hby at_7) rfl k) ?_
    show own_Go p e below K (s₁.setTop (mkF m 8 #[.val (.int p1), .val (.int p2), .val (.int p3), .val (.int (0 : Int32)), .unset, .unset, .unset, .unset, .unset, .unset, .unset] [(.int (0 : Int32))]))
    obtain ⟨_, _, ⟨T1, L1, k1, n1⟩, -, X1, ⟨Lc1, hQ1, l1, y1, z1⟩, st1⟩ := Jvm.LawKit.callS X0 hx (y := (⟨"com/example/micrologue/micrologue/OperandKindValuePinLaw", "kindOf", "(I)Lcom/example/micrologue/micrologue/OperandKind;"⟩ : MethodName)) hown (mvT hZ (hw _ (List.mem_of_getElem? (i := 1) rfl))) (mvT hZ (hw _ (List.mem_of_getElem? (i := 2) rfl))) (mvT hZ (hw _ (List.mem_of_getElem? (i := 3) rfl))) (mvT hZ (hw _ (List.mem_of_getElem? (i := 4) rfl))) (by decide) (backOf (W := 0) (rm1 l Z a0 hw [] (0 : Int32) (w1) (w2) (w3) (w4) (w5) h0 n0 Z0 P0 P1 P2 P3 P4) hZ (hw _ (List.mem_of_getElem? (i := 4) rfl)) (hw _ (List.mem_of_getElem? (i := 3) rfl)) (by decide) (by decide)) (g := (mkF m 8 #[.val (.int p1), .val (.int p2), .val (.int p3), .val (.int (0 : Int32)), .unset, .unset, .unset, .unset, .unset, .unset, .unset] [(.int (0 : Int32))])) rfl (by rw [hml]; rfl) (argsL := [(.int (0 : Int32))]) (rest := []) (lenOf pd_0_0 rfl) rfl (by show 2 * 0 + _ ≤ _; exact Nat.le_of_eq rfl) (hb hby at_8) (fun _ _ => ⟨rfl, e0, (by decide : 0 + 0 ≤ _), (by decide : 0 + 0 ≤ _)⟩)
    dsimp only [Pt.U, Pt.locs, Pt.cells, Pt.slots] at X1 l1 y1 z1 st1 hQ1
    subst l1 y1 z1
    obtain ⟨r1, rfl, hr1, N1q, e1⟩ := hQ1
    have N1 := Fr.app N0 N1q
    refine own_st st1 ?_
    show own_Go p e below K (T1.setTop (mkF m 11 #[.val (.int p1), .val (.int p2), .val (.int p3), .val (.int (0 : Int32)), .unset, .unset, .unset, .unset, .unset, .unset, .unset] [(.ref r1)]))
    have hs := ((hr1.trans (own_k0 w1 w2 w3 w4 w5)).symm : w1 = r1)
    subst hs
    show own_Go p e below K (T1.setTop (mkF m 11 #[.val (.int p1), .val (.int p2), .val (.int p3), .val (.int (0 : Int32)), .unset, .unset, .unset, .unset, .unset, .unset, .unset] [(.ref w1)]))
    refine own_st (fun t k => XS.astore X1.here hx rfl (hb hby at_11) rfl rfl (l' := #[.val (.int p1), .val (.int p2), .val (.int p3), .val (.int (0 : Int32)), .val (.ref w1), .unset, .unset, .unset, .unset, .unset, .unset]) rfl k) ?_
    show own_Go p e below K (T1.setTop (mkF m 13 #[.val (.int p1), .val (.int p2), .val (.int p3), .val (.int (0 : Int32)), .val (.ref w1), .unset, .unset, .unset, .unset, .unset, .unset] []))
    refine own_st (fun t k => XS.iloadN X1.here hx rfl (hb hby at_13) rfl k) ?_
    show own_Go p e below K (T1.setTop (mkF m 14 #[.val (.int p1), .val (.int p2), .val (.int p3), .val (.int (0 : Int32)), .val (.ref w1), .unset, .unset, .unset, .unset, .unset, .unset] [(.int (0 : Int32))]))
    refine own_st (fun t k => XS.ifYes X1.here hx rfl (pc0 := 14) (pc' := 27) rfl (hb hby at_14) rfl ((if0 _ _).trans (teq (by decide : (0 : Int32) = (0 : Int32))).1) (by decide) (by decide) k) ?_
    show own_Go p e below K (T1.setTop (mkF m 27 #[.val (.int p1), .val (.int p2), .val (.int p3), .val (.int (0 : Int32)), .val (.ref w1), .unset, .unset, .unset, .unset, .unset, .unset] []))
    refine own_st (fun t k => XS.iconst X1.here hx rfl (hb hby at_27) k) ?_
    show own_Go p e below K (T1.setTop (mkF m 28 #[.val (.int p1), .val (.int p2), .val (.int p3), .val (.int (0 : Int32)), .val (.ref w1), .unset, .unset, .unset, .unset, .unset, .unset] [(.int (1 : Int32))]))
    refine own_st (fun t k => XS.goto X1.here hx rfl (pc0 := 28) (pc' := 32) rfl (hb hby at_28) (by decide) (by decide) k) ?_
    show own_Go p e below K (T1.setTop (mkF m 32 #[.val (.int p1), .val (.int p2), .val (.int p3), .val (.int (0 : Int32)), .val (.ref w1), .unset, .unset, .unset, .unset, .unset, .unset] [(.int (1 : Int32))]))
    refine own_st (fun t k => XS.istore X1.here hx rfl (hb hby at_32) rfl (l' := #[.val (.int p1), .val (.int p2), .val (.int p3), .val (.int (0 : Int32)), .val (.ref w1), .val (.int (1 : Int32)), .unset, .unset, .unset, .unset, .unset]) rfl k) ?_
    show own_Go p e below K (T1.setTop (mkF m 34 #[.val (.int p1), .val (.int p2), .val (.int p3), .val (.int (0 : Int32)), .val (.ref w1), .val (.int (1 : Int32)), .unset, .unset, .unset, .unset, .unset] []))
    refine own_st (fun t k => XS.iconst X1.here hx rfl (hb hby at_34) k) ?_
    show own_Go p e below K (T1.setTop (mkF m 35 #[.val (.int p1), .val (.int p2), .val (.int p3), .val (.int (0 : Int32)), .val (.ref w1), .val (.int (1 : Int32)), .unset, .unset, .unset, .unset, .unset] [(.int (1 : Int32))]))
    refine own_st (fun t k => XS.iloadN X1.here hx rfl (hb hby at_35) rfl k) ?_
    show own_Go p e below K (T1.setTop (mkF m 36 #[.val (.int p1), .val (.int p2), .val (.int p3), .val (.int (0 : Int32)), .val (.ref w1), .val (.int (1 : Int32)), .unset, .unset, .unset, .unset, .unset] [(.int p2), (.int (1 : Int32))]))
    refine own_st (fun t k => XS.iconst X1.here hx rfl (hb hby at_36) k) ?_
    show own_Go p e below K (T1.setTop (mkF m 37 #[.val (.int p1), .val (.int p2), .val (.int p3), .val (.int (0 : Int32)), .val (.ref w1), .val (.int (1 : Int32)), .unset, .unset, .unset, .unset, .unset] [(.int (1 : Int32)), (.int p2), (.int (1 : Int32))]))
    refine own_st (fun t k => XS.iand X1.here hx rfl (hb hby at_37) rfl k) ?_
    show own_Go p e below K (T1.setTop (mkF m 38 #[.val (.int p1), .val (.int p2), .val (.int p3), .val (.int (0 : Int32)), .val (.ref w1), .val (.int (1 : Int32)), .unset, .unset, .unset, .unset, .unset] [(.int (p2 &&& (1 : Int32))), (.int (1 : Int32))]))
    refine own_st (fun t k => XS.iadd X1.here hx rfl (hb hby at_38) rfl k) ?_
    show own_Go p e below K (T1.setTop (mkF m 39 #[.val (.int p1), .val (.int p2), .val (.int p3), .val (.int (0 : Int32)), .val (.ref w1), .val (.int (1 : Int32)), .unset, .unset, .unset, .unset, .unset] [(.int ((1 : Int32) + (p2 &&& (1 : Int32))))]))
    generalize hnb : ((1 : Int32) + (p2 &&& (1 : Int32))) = nb
    show own_Go p e below K (T1.setTop (mkF m 39 #[.val (.int p1), .val (.int p2), .val (.int p3), .val (.int (0 : Int32)), .val (.ref w1), .val (.int (1 : Int32)), .unset, .unset, .unset, .unset, .unset] [(.int nb)]))
    rcases own_nbb hnb with hs | hs
    · subst hs
      show own_Go p e below K (T1.setTop (mkF m 39 #[.val (.int p1), .val (.int p2), .val (.int p3), .val (.int (0 : Int32)), .val (.ref w1), .val (.int (1 : Int32)), .unset, .unset, .unset, .unset, .unset] [(.int (1 : Int32))]))
      refine own_st (fun t k => XS.istore X1.here hx rfl (hb hby at_39) rfl (l' := #[.val (.int p1), .val (.int p2), .val (.int p3), .val (.int (0 : Int32)), .val (.ref w1), .val (.int (1 : Int32)), .val (.int (1 : Int32)), .unset, .unset, .unset, .unset]) rfl k) ?_
      show own_Go p e below K (T1.setTop (mkF m 41 #[.val (.int p1), .val (.int p2), .val (.int p3), .val (.int (0 : Int32)), .val (.ref w1), .val (.int (1 : Int32)), .val (.int (1 : Int32)), .unset, .unset, .unset, .unset] []))
      refine own_st (fun t k => XS.iload X1.here hx rfl (hb hby at_41) rfl k) ?_
      show own_Go p e below K (T1.setTop (mkF m 43 #[.val (.int p1), .val (.int p2), .val (.int p3), .val (.int (0 : Int32)), .val (.ref w1), .val (.int (1 : Int32)), .val (.int (1 : Int32)), .unset, .unset, .unset, .unset] [(.int (1 : Int32))]))
      refine own_st (fun t k => XS.iconst X1.here hx rfl (hb hby at_43) k) ?_
      show own_Go p e below K (T1.setTop (mkF m 44 #[.val (.int p1), .val (.int p2), .val (.int p3), .val (.int (0 : Int32)), .val (.ref w1), .val (.int (1 : Int32)), .val (.int (1 : Int32)), .unset, .unset, .unset, .unset] [(.int (1 : Int32)), (.int (1 : Int32))]))
      refine own_st (fun t k => XS.icmpNo X1.here hx rfl (hb hby at_44) rfl (teq (by decide : (1 : Int32) = (1 : Int32))).2 k) ?_
      show own_Go p e below K (T1.setTop (mkF m 47 #[.val (.int p1), .val (.int p2), .val (.int p3), .val (.int (0 : Int32)), .val (.ref w1), .val (.int (1 : Int32)), .val (.int (1 : Int32)), .unset, .unset, .unset, .unset] []))
      refine own_st (fun t k => XS.sipush X1.here hx rfl (hb hby at_47) k) ?_
      show own_Go p e below K (T1.setTop (mkF m 50 #[.val (.int p1), .val (.int p2), .val (.int p3), .val (.int (0 : Int32)), .val (.ref w1), .val (.int (1 : Int32)), .val (.int (1 : Int32)), .unset, .unset, .unset, .unset] [(.int (255 : Int32))]))
      refine own_st (fun t k => XS.goto X1.here hx rfl (pc0 := 50) (pc' := 55) rfl (hb hby at_50) (by decide) (by decide) k) ?_
      show own_Go p e below K (T1.setTop (mkF m 55 #[.val (.int p1), .val (.int p2), .val (.int p3), .val (.int (0 : Int32)), .val (.ref w1), .val (.int (1 : Int32)), .val (.int (1 : Int32)), .unset, .unset, .unset, .unset] [(.int (255 : Int32))]))
      refine own_st (fun t k => XS.istore X1.here hx rfl (hb hby at_55) rfl (l' := #[.val (.int p1), .val (.int p2), .val (.int p3), .val (.int (0 : Int32)), .val (.ref w1), .val (.int (1 : Int32)), .val (.int (1 : Int32)), .val (.int (255 : Int32)), .unset, .unset, .unset]) rfl k) ?_
      show own_Go p e below K (T1.setTop (mkF m 57 #[.val (.int p1), .val (.int p2), .val (.int p3), .val (.int (0 : Int32)), .val (.ref w1), .val (.int (1 : Int32)), .val (.int (1 : Int32)), .val (.int (255 : Int32)), .unset, .unset, .unset] []))
      refine own_st (fun t k => XS.iload X1.here hx rfl (hb hby at_57) rfl k) ?_
      show own_Go p e below K (T1.setTop (mkF m 59 #[.val (.int p1), .val (.int p2), .val (.int p3), .val (.int (0 : Int32)), .val (.ref w1), .val (.int (1 : Int32)), .val (.int (1 : Int32)), .val (.int (255 : Int32)), .unset, .unset, .unset] [(.int (1 : Int32))]))
      refine own_st (fun t k => XS.iconst X1.here hx rfl (hb hby at_59) k) ?_
      show own_Go p e below K (T1.setTop (mkF m 60 #[.val (.int p1), .val (.int p2), .val (.int p3), .val (.int (0 : Int32)), .val (.ref w1), .val (.int (1 : Int32)), .val (.int (1 : Int32)), .val (.int (255 : Int32)), .unset, .unset, .unset] [(.int (1 : Int32)), (.int (1 : Int32))]))
      refine own_st (fun t k => XS.icmpNo X1.here hx rfl (hb hby at_60) rfl (teq (by decide : (1 : Int32) = (1 : Int32))).2 k) ?_
      show own_Go p e below K (T1.setTop (mkF m 63 #[.val (.int p1), .val (.int p2), .val (.int p3), .val (.int (0 : Int32)), .val (.ref w1), .val (.int (1 : Int32)), .val (.int (1 : Int32)), .val (.int (255 : Int32)), .unset, .unset, .unset] []))
      refine own_st (fun t k => XS.sipush X1.here hx rfl (hb hby at_63) k) ?_
      show own_Go p e below K (T1.setTop (mkF m 66 #[.val (.int p1), .val (.int p2), .val (.int p3), .val (.int (0 : Int32)), .val (.ref w1), .val (.int (1 : Int32)), .val (.int (1 : Int32)), .val (.int (255 : Int32)), .unset, .unset, .unset] [(.int (128 : Int32))]))
      refine own_st (fun t k => XS.goto X1.here hx rfl (pc0 := 66) (pc' := 71) rfl (hb hby at_66) (by decide) (by decide) k) ?_
      show own_Go p e below K (T1.setTop (mkF m 71 #[.val (.int p1), .val (.int p2), .val (.int p3), .val (.int (0 : Int32)), .val (.ref w1), .val (.int (1 : Int32)), .val (.int (1 : Int32)), .val (.int (255 : Int32)), .unset, .unset, .unset] [(.int (128 : Int32))]))
      refine own_st (fun t k => XS.istore X1.here hx rfl (hb hby at_71) rfl (l' := #[.val (.int p1), .val (.int p2), .val (.int p3), .val (.int (0 : Int32)), .val (.ref w1), .val (.int (1 : Int32)), .val (.int (1 : Int32)), .val (.int (255 : Int32)), .val (.int (128 : Int32)), .unset, .unset]) rfl k) ?_
      show own_Go p e below K (T1.setTop (mkF m 73 #[.val (.int p1), .val (.int p2), .val (.int p3), .val (.int (0 : Int32)), .val (.ref w1), .val (.int (1 : Int32)), .val (.int (1 : Int32)), .val (.int (255 : Int32)), .val (.int (128 : Int32)), .unset, .unset] []))
      refine own_st (fun t k => XS.iloadN X1.here hx rfl (hb hby at_73) rfl k) ?_
      show own_Go p e below K (T1.setTop (mkF m 74 #[.val (.int p1), .val (.int p2), .val (.int p3), .val (.int (0 : Int32)), .val (.ref w1), .val (.int (1 : Int32)), .val (.int (1 : Int32)), .val (.int (255 : Int32)), .val (.int (128 : Int32)), .unset, .unset] [(.int p3)]))
      refine own_st (fun t k => XS.iload X1.here hx rfl (hb hby at_74) rfl k) ?_
      show own_Go p e below K (T1.setTop (mkF m 76 #[.val (.int p1), .val (.int p2), .val (.int p3), .val (.int (0 : Int32)), .val (.ref w1), .val (.int (1 : Int32)), .val (.int (1 : Int32)), .val (.int (255 : Int32)), .val (.int (128 : Int32)), .unset, .unset] [(.int (255 : Int32)), (.int p3)]))
      refine own_st (fun t k => XS.iand X1.here hx rfl (hb hby at_76) rfl k) ?_
      show own_Go p e below K (T1.setTop (mkF m 77 #[.val (.int p1), .val (.int p2), .val (.int p3), .val (.int (0 : Int32)), .val (.ref w1), .val (.int (1 : Int32)), .val (.int (1 : Int32)), .val (.int (255 : Int32)), .val (.int (128 : Int32)), .unset, .unset] [(.int (p3 &&& (255 : Int32)))]))
      generalize hru : (p3 &&& (255 : Int32)) = ru
      show own_Go p e below K (T1.setTop (mkF m 77 #[.val (.int p1), .val (.int p2), .val (.int p3), .val (.int (0 : Int32)), .val (.ref w1), .val (.int (1 : Int32)), .val (.int (1 : Int32)), .val (.int (255 : Int32)), .val (.int (128 : Int32)), .unset, .unset] [(.int ru)]))
      refine own_st (fun t k => XS.istore X1.here hx rfl (hb hby at_77) rfl (l' := #[.val (.int p1), .val (.int p2), .val (.int p3), .val (.int (0 : Int32)), .val (.ref w1), .val (.int (1 : Int32)), .val (.int (1 : Int32)), .val (.int (255 : Int32)), .val (.int (128 : Int32)), .val (.int ru), .unset]) rfl k) ?_
      show own_Go p e below K (T1.setTop (mkF m 79 #[.val (.int p1), .val (.int p2), .val (.int p3), .val (.int (0 : Int32)), .val (.ref w1), .val (.int (1 : Int32)), .val (.int (1 : Int32)), .val (.int (255 : Int32)), .val (.int (128 : Int32)), .val (.int ru), .unset] []))
      refine own_st (fun t k => XS.iload X1.here hx rfl (hb hby at_79) rfl k) ?_
      show own_Go p e below K (T1.setTop (mkF m 81 #[.val (.int p1), .val (.int p2), .val (.int p3), .val (.int (0 : Int32)), .val (.ref w1), .val (.int (1 : Int32)), .val (.int (1 : Int32)), .val (.int (255 : Int32)), .val (.int (128 : Int32)), .val (.int ru), .unset] [(.int (1 : Int32))]))
      refine own_st (fun t k => XS.ifNo X1.here hx rfl (hb hby at_81) rfl ((if0 _ _).trans (feq (by decide : ¬ ((1 : Int32) = (0 : Int32)))).1) k) ?_
      show own_Go p e below K (T1.setTop (mkF m 84 #[.val (.int p1), .val (.int p2), .val (.int p3), .val (.int (0 : Int32)), .val (.ref w1), .val (.int (1 : Int32)), .val (.int (1 : Int32)), .val (.int (255 : Int32)), .val (.int (128 : Int32)), .val (.int ru), .unset] []))
      refine own_st (fun t k => XS.iload X1.here hx rfl (hb hby at_84) rfl k) ?_
      show own_Go p e below K (T1.setTop (mkF m 86 #[.val (.int p1), .val (.int p2), .val (.int p3), .val (.int (0 : Int32)), .val (.ref w1), .val (.int (1 : Int32)), .val (.int (1 : Int32)), .val (.int (255 : Int32)), .val (.int (128 : Int32)), .val (.int ru), .unset] [(.int ru)]))
      refine own_st (fun t k => XS.iload X1.here hx rfl (hb hby at_86) rfl k) ?_
      show own_Go p e below K (T1.setTop (mkF m 88 #[.val (.int p1), .val (.int p2), .val (.int p3), .val (.int (0 : Int32)), .val (.ref w1), .val (.int (1 : Int32)), .val (.int (1 : Int32)), .val (.int (255 : Int32)), .val (.int (128 : Int32)), .val (.int ru), .unset] [(.int (128 : Int32)), (.int ru)]))
      by_cases hc88 : ru < (128 : Int32)
      · refine own_st (fun t k => XS.icmpYes X1.here hx rfl (pc0 := 88) (pc' := 103) rfl (hb hby at_88) rfl (tlt hc88).1 (by decide) (by decide) k) ?_
        show own_Go p e below K (T1.setTop (mkF m 103 #[.val (.int p1), .val (.int p2), .val (.int p3), .val (.int (0 : Int32)), .val (.ref w1), .val (.int (1 : Int32)), .val (.int (1 : Int32)), .val (.int (255 : Int32)), .val (.int (128 : Int32)), .val (.int ru), .unset] []))
        refine own_st (fun t k => XS.iload X1.here hx rfl (hb hby at_103) rfl k) ?_
        show own_Go p e below K (T1.setTop (mkF m 105 #[.val (.int p1), .val (.int p2), .val (.int p3), .val (.int (0 : Int32)), .val (.ref w1), .val (.int (1 : Int32)), .val (.int (1 : Int32)), .val (.int (255 : Int32)), .val (.int (128 : Int32)), .val (.int ru), .unset] [(.int ru)]))
        refine own_st (fun t k => XS.istore X1.here hx rfl (hb hby at_105) rfl (l' := #[.val (.int p1), .val (.int p2), .val (.int p3), .val (.int (0 : Int32)), .val (.ref w1), .val (.int (1 : Int32)), .val (.int (1 : Int32)), .val (.int (255 : Int32)), .val (.int (128 : Int32)), .val (.int ru), .val (.int ru)]) rfl k) ?_
        show own_Go p e below K (T1.setTop (mkF m 107 #[.val (.int p1), .val (.int p2), .val (.int p3), .val (.int (0 : Int32)), .val (.ref w1), .val (.int (1 : Int32)), .val (.int (1 : Int32)), .val (.int (255 : Int32)), .val (.int (128 : Int32)), .val (.int ru), .val (.int ru)] []))
        refine own_st (fun t k => XS.aload X1.here hx rfl (hb hby at_107) rfl rfl k) ?_
        show own_Go p e below K (T1.setTop (mkF m 109 #[.val (.int p1), .val (.int p2), .val (.int p3), .val (.int (0 : Int32)), .val (.ref w1), .val (.int (1 : Int32)), .val (.int (1 : Int32)), .val (.int (255 : Int32)), .val (.int (128 : Int32)), .val (.int ru), .val (.int ru)] [(.ref w1)]))
        refine own_st (fun t k => XS.iload X1.here hx rfl (hb hby at_109) rfl k) ?_
        show own_Go p e below K (T1.setTop (mkF m 111 #[.val (.int p1), .val (.int p2), .val (.int p3), .val (.int (0 : Int32)), .val (.ref w1), .val (.int (1 : Int32)), .val (.int (1 : Int32)), .val (.int (255 : Int32)), .val (.int (128 : Int32)), .val (.int ru), .val (.int ru)] [(.int ru), (.ref w1)]))
        refine own_st (fun t k => XS.iload X1.here hx rfl (hb hby at_111) rfl k) ?_
        show own_Go p e below K (T1.setTop (mkF m 113 #[.val (.int p1), .val (.int p2), .val (.int p3), .val (.int (0 : Int32)), .val (.ref w1), .val (.int (1 : Int32)), .val (.int (1 : Int32)), .val (.int (255 : Int32)), .val (.int (128 : Int32)), .val (.int ru), .val (.int ru)] [(.int (1 : Int32)), (.int ru), (.ref w1)]))
        obtain ⟨cq2, kq2, qv2a, qv2b, qv2c⟩ := isOf hZ e1 P5
        obtain ⟨_, _, ⟨T2, L2, k2, n2⟩, -, X2, ⟨Lc2, hQ2, l2, y2, z2⟩, st2⟩ := X1.virtualBack hx (y := (⟨"com/example/micrologue/micrologue/OperandKind", "value", "(II)I"⟩ : MethodName)) (z := (⟨"com/example/micrologue/micrologue/OperandKind", "value", "(II)I"⟩ : MethodName)) hown (mvT hZ (hw _ (List.mem_of_getElem? (i := 10) rfl))) (mvT hZ (hw _ (List.mem_of_getElem? (i := 11) rfl))) (notFace_of_selects (args := #[]) (mvT hZ (hw _ (List.mem_of_getElem? (i := 13) rfl)))) (mvT hZ (hw _ (List.mem_of_getElem? (i := 13) rfl))) (mvT hZ (hw _ (List.mem_of_getElem? (i := 12) rfl))) (by decide) (backOf (W := 0) (rm2 l Z a0 hw [] w1 ru (1 : Int32) ((1 : Int32)) h0 n0 Z0 P10) hZ (hw _ (List.mem_of_getElem? (i := 14) rfl)) (hw _ (List.mem_of_getElem? (i := 6) rfl)) (by decide) (by decide)) qv2a qv2c (g := (mkF m 113 #[.val (.int p1), .val (.int p2), .val (.int p3), .val (.int (0 : Int32)), .val (.ref w1), .val (.int (1 : Int32)), .val (.int (1 : Int32)), .val (.int (255 : Int32)), .val (.int (128 : Int32)), .val (.int ru), .val (.int ru)] [(.int (1 : Int32)), (.int ru), (.ref w1)])) rfl (by rw [hml]; rfl) (Steps.refl _) (argsL := [(.int ru), (.int (1 : Int32))]) (rest := []) (lenOf pd_0_1 rfl) rfl (by show 2 * 0 + _ ≤ _; exact Nat.le_of_eq rfl) (hb hby at_113) (fun _ _ => ⟨rfl, e1, (by decide : 0 + 0 ≤ _), (by decide : 0 + 0 ≤ _)⟩)
        dsimp only [Pt.U, Pt.locs, Pt.cells, Pt.slots] at X2 l2 y2 z2 st2 hQ2
        subst l2 y2 z2
        obtain ⟨r2, rfl, hr2, N2q, e2⟩ := hQ2
        have N2 := Fr.app N1 N2q
        refine own_tr st2 ?_
        show own_Go p e below K (T2.setTop (mkF m 116 #[.val (.int p1), .val (.int p2), .val (.int p3), .val (.int (0 : Int32)), .val (.ref w1), .val (.int (1 : Int32)), .val (.int (1 : Int32)), .val (.int (255 : Int32)), .val (.int (128 : Int32)), .val (.int ru), .val (.int ru)] [(.int r2)]))
        refine own_st (fun t k => XS.iload X2.here hx rfl (hb hby at_116) rfl k) ?_
        show own_Go p e below K (T2.setTop (mkF m 118 #[.val (.int p1), .val (.int p2), .val (.int p3), .val (.int (0 : Int32)), .val (.ref w1), .val (.int (1 : Int32)), .val (.int (1 : Int32)), .val (.int (255 : Int32)), .val (.int (128 : Int32)), .val (.int ru), .val (.int ru)] [(.int ru), (.int r2)]))
        refine own_st (fun t k => XS.icmpNo X2.here hx rfl (hb hby at_118) rfl (teq (hr2.trans (own_a1 hru hc88) : r2 = ru)).2 k) ?_
        show own_Go p e below K (T2.setTop (mkF m 121 #[.val (.int p1), .val (.int p2), .val (.int p3), .val (.int (0 : Int32)), .val (.ref w1), .val (.int (1 : Int32)), .val (.int (1 : Int32)), .val (.int (255 : Int32)), .val (.int (128 : Int32)), .val (.int ru), .val (.int ru)] []))
        refine own_st (fun t k => XS.iconst X2.here hx rfl (hb hby at_121) k) ?_
        show own_Go p e below K (T2.setTop (mkF m 122 #[.val (.int p1), .val (.int p2), .val (.int p3), .val (.int (0 : Int32)), .val (.ref w1), .val (.int (1 : Int32)), .val (.int (1 : Int32)), .val (.int (255 : Int32)), .val (.int (128 : Int32)), .val (.int ru), .val (.int ru)] [(.int (1 : Int32))]))
        refine own_st (fun t k => XS.goto X2.here hx rfl (pc0 := 122) (pc' := 126) rfl (hb hby at_122) (by decide) (by decide) k) ?_
        show own_Go p e below K (T2.setTop (mkF m 126 #[.val (.int p1), .val (.int p2), .val (.int p3), .val (.int (0 : Int32)), .val (.ref w1), .val (.int (1 : Int32)), .val (.int (1 : Int32)), .val (.int (255 : Int32)), .val (.int (128 : Int32)), .val (.int ru), .val (.int ru)] [(.int (1 : Int32))]))
        obtain ⟨fs, hr, hrun, hended, hW, hsame⟩ := X2.leave (v := some (.int (nar .boolean (1 : Int32)))) (fun h => by rw [Bd.returns] at h; cases h)
        refine ⟨_, retN X2 hx (t := .boolean) Bd.returns (by simp) (hb hby at_126) hr, fin _ _ _ hrun hended ?_ ⟨⟨_, rfl⟩, hW, hsame.mono (by decide) (by decide)⟩⟩
        show Q0 Z p1 p2 p3 w1 w2 w3 w4 w5 h0 n0 _ T2.heap _
        rw [e2]
        exact ⟨rfl, N2⟩
      refine own_st (fun t k => XS.icmpNo X1.here hx rfl (hb hby at_88) rfl (flt hc88).1 k) ?_
      show own_Go p e below K (T1.setTop (mkF m 91 #[.val (.int p1), .val (.int p2), .val (.int p3), .val (.int (0 : Int32)), .val (.ref w1), .val (.int (1 : Int32)), .val (.int (1 : Int32)), .val (.int (255 : Int32)), .val (.int (128 : Int32)), .val (.int ru), .unset] []))
      refine own_st (fun t k => XS.iload X1.here hx rfl (hb hby at_91) rfl k) ?_
      show own_Go p e below K (T1.setTop (mkF m 93 #[.val (.int p1), .val (.int p2), .val (.int p3), .val (.int (0 : Int32)), .val (.ref w1), .val (.int (1 : Int32)), .val (.int (1 : Int32)), .val (.int (255 : Int32)), .val (.int (128 : Int32)), .val (.int ru), .unset] [(.int ru)]))
      refine own_st (fun t k => XS.iload X1.here hx rfl (hb hby at_93) rfl k) ?_
      show own_Go p e below K (T1.setTop (mkF m 95 #[.val (.int p1), .val (.int p2), .val (.int p3), .val (.int (0 : Int32)), .val (.ref w1), .val (.int (1 : Int32)), .val (.int (1 : Int32)), .val (.int (255 : Int32)), .val (.int (128 : Int32)), .val (.int ru), .unset] [(.int (255 : Int32)), (.int ru)]))
      refine own_st (fun t k => XS.iconst X1.here hx rfl (hb hby at_95) k) ?_
      show own_Go p e below K (T1.setTop (mkF m 96 #[.val (.int p1), .val (.int p2), .val (.int p3), .val (.int (0 : Int32)), .val (.ref w1), .val (.int (1 : Int32)), .val (.int (1 : Int32)), .val (.int (255 : Int32)), .val (.int (128 : Int32)), .val (.int ru), .unset] [(.int (1 : Int32)), (.int (255 : Int32)), (.int ru)]))
      refine own_st (fun t k => XS.iadd X1.here hx rfl (hb hby at_96) rfl k) ?_
      show own_Go p e below K (T1.setTop (mkF m 97 #[.val (.int p1), .val (.int p2), .val (.int p3), .val (.int (0 : Int32)), .val (.ref w1), .val (.int (1 : Int32)), .val (.int (1 : Int32)), .val (.int (255 : Int32)), .val (.int (128 : Int32)), .val (.int ru), .unset] [(.int ((255 : Int32) + (1 : Int32))), (.int ru)]))
      rw [show ((255 : Int32) + (1 : Int32)) = (256 : Int32) from by decide]
      show own_Go p e below K (T1.setTop (mkF m 97 #[.val (.int p1), .val (.int p2), .val (.int p3), .val (.int (0 : Int32)), .val (.ref w1), .val (.int (1 : Int32)), .val (.int (1 : Int32)), .val (.int (255 : Int32)), .val (.int (128 : Int32)), .val (.int ru), .unset] [(.int (256 : Int32)), (.int ru)]))
      refine own_st (fun t k => XS.isub X1.here hx rfl (hb hby at_97) rfl k) ?_
      show own_Go p e below K (T1.setTop (mkF m 98 #[.val (.int p1), .val (.int p2), .val (.int p3), .val (.int (0 : Int32)), .val (.ref w1), .val (.int (1 : Int32)), .val (.int (1 : Int32)), .val (.int (255 : Int32)), .val (.int (128 : Int32)), .val (.int ru), .unset] [(.int (ru - (256 : Int32)))]))
      refine own_st (fun t k => XS.istore X1.here hx rfl (hb hby at_98) rfl (l' := #[.val (.int p1), .val (.int p2), .val (.int p3), .val (.int (0 : Int32)), .val (.ref w1), .val (.int (1 : Int32)), .val (.int (1 : Int32)), .val (.int (255 : Int32)), .val (.int (128 : Int32)), .val (.int ru), .val (.int (ru - (256 : Int32)))]) rfl k) ?_
      show own_Go p e below K (T1.setTop (mkF m 100 #[.val (.int p1), .val (.int p2), .val (.int p3), .val (.int (0 : Int32)), .val (.ref w1), .val (.int (1 : Int32)), .val (.int (1 : Int32)), .val (.int (255 : Int32)), .val (.int (128 : Int32)), .val (.int ru), .val (.int (ru - (256 : Int32)))] []))
      refine own_st (fun t k => XS.goto X1.here hx rfl (pc0 := 100) (pc' := 107) rfl (hb hby at_100) (by decide) (by decide) k) ?_
      show own_Go p e below K (T1.setTop (mkF m 107 #[.val (.int p1), .val (.int p2), .val (.int p3), .val (.int (0 : Int32)), .val (.ref w1), .val (.int (1 : Int32)), .val (.int (1 : Int32)), .val (.int (255 : Int32)), .val (.int (128 : Int32)), .val (.int ru), .val (.int (ru - (256 : Int32)))] []))
      refine own_st (fun t k => XS.aload X1.here hx rfl (hb hby at_107) rfl rfl k) ?_
      show own_Go p e below K (T1.setTop (mkF m 109 #[.val (.int p1), .val (.int p2), .val (.int p3), .val (.int (0 : Int32)), .val (.ref w1), .val (.int (1 : Int32)), .val (.int (1 : Int32)), .val (.int (255 : Int32)), .val (.int (128 : Int32)), .val (.int ru), .val (.int (ru - (256 : Int32)))] [(.ref w1)]))
      refine own_st (fun t k => XS.iload X1.here hx rfl (hb hby at_109) rfl k) ?_
      show own_Go p e below K (T1.setTop (mkF m 111 #[.val (.int p1), .val (.int p2), .val (.int p3), .val (.int (0 : Int32)), .val (.ref w1), .val (.int (1 : Int32)), .val (.int (1 : Int32)), .val (.int (255 : Int32)), .val (.int (128 : Int32)), .val (.int ru), .val (.int (ru - (256 : Int32)))] [(.int ru), (.ref w1)]))
      refine own_st (fun t k => XS.iload X1.here hx rfl (hb hby at_111) rfl k) ?_
      show own_Go p e below K (T1.setTop (mkF m 113 #[.val (.int p1), .val (.int p2), .val (.int p3), .val (.int (0 : Int32)), .val (.ref w1), .val (.int (1 : Int32)), .val (.int (1 : Int32)), .val (.int (255 : Int32)), .val (.int (128 : Int32)), .val (.int ru), .val (.int (ru - (256 : Int32)))] [(.int (1 : Int32)), (.int ru), (.ref w1)]))
      obtain ⟨cq3, kq3, qv3a, qv3b, qv3c⟩ := isOf hZ e1 P5
      obtain ⟨_, _, ⟨T3, L3, k3, n3⟩, -, X3, ⟨Lc3, hQ3, l3, y3, z3⟩, st3⟩ := X1.virtualBack hx (y := (⟨"com/example/micrologue/micrologue/OperandKind", "value", "(II)I"⟩ : MethodName)) (z := (⟨"com/example/micrologue/micrologue/OperandKind", "value", "(II)I"⟩ : MethodName)) hown (mvT hZ (hw _ (List.mem_of_getElem? (i := 10) rfl))) (mvT hZ (hw _ (List.mem_of_getElem? (i := 11) rfl))) (notFace_of_selects (args := #[]) (mvT hZ (hw _ (List.mem_of_getElem? (i := 13) rfl)))) (mvT hZ (hw _ (List.mem_of_getElem? (i := 13) rfl))) (mvT hZ (hw _ (List.mem_of_getElem? (i := 12) rfl))) (by decide) (backOf (W := 0) (rm2 l Z a0 hw [] w1 ru (1 : Int32) ((1 : Int32)) h0 n0 Z0 P10) hZ (hw _ (List.mem_of_getElem? (i := 14) rfl)) (hw _ (List.mem_of_getElem? (i := 6) rfl)) (by decide) (by decide)) qv3a qv3c (g := (mkF m 113 #[.val (.int p1), .val (.int p2), .val (.int p3), .val (.int (0 : Int32)), .val (.ref w1), .val (.int (1 : Int32)), .val (.int (1 : Int32)), .val (.int (255 : Int32)), .val (.int (128 : Int32)), .val (.int ru), .val (.int (ru - (256 : Int32)))] [(.int (1 : Int32)), (.int ru), (.ref w1)])) rfl (by rw [hml]; rfl) (Steps.refl _) (argsL := [(.int ru), (.int (1 : Int32))]) (rest := []) (lenOf pd_0_1 rfl) rfl (by show 2 * 0 + _ ≤ _; exact Nat.le_of_eq rfl) (hb hby at_113) (fun _ _ => ⟨rfl, e1, (by decide : 0 + 0 ≤ _), (by decide : 0 + 0 ≤ _)⟩)
      dsimp only [Pt.U, Pt.locs, Pt.cells, Pt.slots] at X3 l3 y3 z3 st3 hQ3
      subst l3 y3 z3
      obtain ⟨r3, rfl, hr3, N3q, e3⟩ := hQ3
      have N3 := Fr.app N1 N3q
      refine own_tr st3 ?_
      show own_Go p e below K (T3.setTop (mkF m 116 #[.val (.int p1), .val (.int p2), .val (.int p3), .val (.int (0 : Int32)), .val (.ref w1), .val (.int (1 : Int32)), .val (.int (1 : Int32)), .val (.int (255 : Int32)), .val (.int (128 : Int32)), .val (.int ru), .val (.int (ru - (256 : Int32)))] [(.int r3)]))
      refine own_st (fun t k => XS.iload X3.here hx rfl (hb hby at_116) rfl k) ?_
      show own_Go p e below K (T3.setTop (mkF m 118 #[.val (.int p1), .val (.int p2), .val (.int p3), .val (.int (0 : Int32)), .val (.ref w1), .val (.int (1 : Int32)), .val (.int (1 : Int32)), .val (.int (255 : Int32)), .val (.int (128 : Int32)), .val (.int ru), .val (.int (ru - (256 : Int32)))] [(.int (ru - (256 : Int32))), (.int r3)]))
      refine own_st (fun t k => XS.icmpNo X3.here hx rfl (hb hby at_118) rfl (teq (hr3.trans (own_b1 hru hc88) : r3 = (ru - (256 : Int32)))).2 k) ?_
      show own_Go p e below K (T3.setTop (mkF m 121 #[.val (.int p1), .val (.int p2), .val (.int p3), .val (.int (0 : Int32)), .val (.ref w1), .val (.int (1 : Int32)), .val (.int (1 : Int32)), .val (.int (255 : Int32)), .val (.int (128 : Int32)), .val (.int ru), .val (.int (ru - (256 : Int32)))] []))
      refine own_st (fun t k => XS.iconst X3.here hx rfl (hb hby at_121) k) ?_
      show own_Go p e below K (T3.setTop (mkF m 122 #[.val (.int p1), .val (.int p2), .val (.int p3), .val (.int (0 : Int32)), .val (.ref w1), .val (.int (1 : Int32)), .val (.int (1 : Int32)), .val (.int (255 : Int32)), .val (.int (128 : Int32)), .val (.int ru), .val (.int (ru - (256 : Int32)))] [(.int (1 : Int32))]))
      refine own_st (fun t k => XS.goto X3.here hx rfl (pc0 := 122) (pc' := 126) rfl (hb hby at_122) (by decide) (by decide) k) ?_
      show own_Go p e below K (T3.setTop (mkF m 126 #[.val (.int p1), .val (.int p2), .val (.int p3), .val (.int (0 : Int32)), .val (.ref w1), .val (.int (1 : Int32)), .val (.int (1 : Int32)), .val (.int (255 : Int32)), .val (.int (128 : Int32)), .val (.int ru), .val (.int (ru - (256 : Int32)))] [(.int (1 : Int32))]))
      obtain ⟨fs, hr, hrun, hended, hW, hsame⟩ := X3.leave (v := some (.int (nar .boolean (1 : Int32)))) (fun h => by rw [Bd.returns] at h; cases h)
      refine ⟨_, retN X3 hx (t := .boolean) Bd.returns (by simp) (hb hby at_126) hr, fin _ _ _ hrun hended ?_ ⟨⟨_, rfl⟩, hW, hsame.mono (by decide) (by decide)⟩⟩
      show Q0 Z p1 p2 p3 w1 w2 w3 w4 w5 h0 n0 _ T3.heap _
      rw [e3]
      exact ⟨rfl, N3⟩
    subst hs
    show own_Go p e below K (T1.setTop (mkF m 39 #[.val (.int p1), .val (.int p2), .val (.int p3), .val (.int (0 : Int32)), .val (.ref w1), .val (.int (1 : Int32)), .unset, .unset, .unset, .unset, .unset] [(.int (2 : Int32))]))
    refine own_st (fun t k => XS.istore X1.here hx rfl (hb hby at_39) rfl (l' := #[.val (.int p1), .val (.int p2), .val (.int p3), .val (.int (0 : Int32)), .val (.ref w1), .val (.int (1 : Int32)), .val (.int (2 : Int32)), .unset, .unset, .unset, .unset]) rfl k) ?_
    show own_Go p e below K (T1.setTop (mkF m 41 #[.val (.int p1), .val (.int p2), .val (.int p3), .val (.int (0 : Int32)), .val (.ref w1), .val (.int (1 : Int32)), .val (.int (2 : Int32)), .unset, .unset, .unset, .unset] []))
    refine own_st (fun t k => XS.iload X1.here hx rfl (hb hby at_41) rfl k) ?_
    show own_Go p e below K (T1.setTop (mkF m 43 #[.val (.int p1), .val (.int p2), .val (.int p3), .val (.int (0 : Int32)), .val (.ref w1), .val (.int (1 : Int32)), .val (.int (2 : Int32)), .unset, .unset, .unset, .unset] [(.int (2 : Int32))]))
    refine own_st (fun t k => XS.iconst X1.here hx rfl (hb hby at_43) k) ?_
    show own_Go p e below K (T1.setTop (mkF m 44 #[.val (.int p1), .val (.int p2), .val (.int p3), .val (.int (0 : Int32)), .val (.ref w1), .val (.int (1 : Int32)), .val (.int (2 : Int32)), .unset, .unset, .unset, .unset] [(.int (1 : Int32)), (.int (2 : Int32))]))
    refine own_st (fun t k => XS.icmpYes X1.here hx rfl (pc0 := 44) (pc' := 53) rfl (hb hby at_44) rfl (feq (by decide : ¬ ((2 : Int32) = (1 : Int32)))).2 (by decide) (by decide) k) ?_
    show own_Go p e below K (T1.setTop (mkF m 53 #[.val (.int p1), .val (.int p2), .val (.int p3), .val (.int (0 : Int32)), .val (.ref w1), .val (.int (1 : Int32)), .val (.int (2 : Int32)), .unset, .unset, .unset, .unset] []))
    refine own_st (X1.ldcInt hx hown (mvT hZ (hw _ (List.mem_of_getElem? (i := 8) rfl))) (g := (mkF m 53 #[.val (.int p1), .val (.int p2), .val (.int p3), .val (.int (0 : Int32)), .val (.ref w1), .val (.int (1 : Int32)), .val (.int (2 : Int32)), .unset, .unset, .unset, .unset] [])) rfl (hb hby at_53)) ?_
    show own_Go p e below K (T1.setTop (mkF m 55 #[.val (.int p1), .val (.int p2), .val (.int p3), .val (.int (0 : Int32)), .val (.ref w1), .val (.int (1 : Int32)), .val (.int (2 : Int32)), .unset, .unset, .unset, .unset] [(.int (65535 : Int32))]))
    refine own_st (fun t k => XS.istore X1.here hx rfl (hb hby at_55) rfl (l' := #[.val (.int p1), .val (.int p2), .val (.int p3), .val (.int (0 : Int32)), .val (.ref w1), .val (.int (1 : Int32)), .val (.int (2 : Int32)), .val (.int (65535 : Int32)), .unset, .unset, .unset]) rfl k) ?_
    show own_Go p e below K (T1.setTop (mkF m 57 #[.val (.int p1), .val (.int p2), .val (.int p3), .val (.int (0 : Int32)), .val (.ref w1), .val (.int (1 : Int32)), .val (.int (2 : Int32)), .val (.int (65535 : Int32)), .unset, .unset, .unset] []))
    refine own_st (fun t k => XS.iload X1.here hx rfl (hb hby at_57) rfl k) ?_
    show own_Go p e below K (T1.setTop (mkF m 59 #[.val (.int p1), .val (.int p2), .val (.int p3), .val (.int (0 : Int32)), .val (.ref w1), .val (.int (1 : Int32)), .val (.int (2 : Int32)), .val (.int (65535 : Int32)), .unset, .unset, .unset] [(.int (2 : Int32))]))
    refine own_st (fun t k => XS.iconst X1.here hx rfl (hb hby at_59) k) ?_
    show own_Go p e below K (T1.setTop (mkF m 60 #[.val (.int p1), .val (.int p2), .val (.int p3), .val (.int (0 : Int32)), .val (.ref w1), .val (.int (1 : Int32)), .val (.int (2 : Int32)), .val (.int (65535 : Int32)), .unset, .unset, .unset] [(.int (1 : Int32)), (.int (2 : Int32))]))
    refine own_st (fun t k => XS.icmpYes X1.here hx rfl (pc0 := 60) (pc' := 69) rfl (hb hby at_60) rfl (feq (by decide : ¬ ((2 : Int32) = (1 : Int32)))).2 (by decide) (by decide) k) ?_
    show own_Go p e below K (T1.setTop (mkF m 69 #[.val (.int p1), .val (.int p2), .val (.int p3), .val (.int (0 : Int32)), .val (.ref w1), .val (.int (1 : Int32)), .val (.int (2 : Int32)), .val (.int (65535 : Int32)), .unset, .unset, .unset] []))
    refine own_st (X1.ldcInt hx hown (mvT hZ (hw _ (List.mem_of_getElem? (i := 9) rfl))) (g := (mkF m 69 #[.val (.int p1), .val (.int p2), .val (.int p3), .val (.int (0 : Int32)), .val (.ref w1), .val (.int (1 : Int32)), .val (.int (2 : Int32)), .val (.int (65535 : Int32)), .unset, .unset, .unset] [])) rfl (hb hby at_69)) ?_
    show own_Go p e below K (T1.setTop (mkF m 71 #[.val (.int p1), .val (.int p2), .val (.int p3), .val (.int (0 : Int32)), .val (.ref w1), .val (.int (1 : Int32)), .val (.int (2 : Int32)), .val (.int (65535 : Int32)), .unset, .unset, .unset] [(.int (32768 : Int32))]))
    refine own_st (fun t k => XS.istore X1.here hx rfl (hb hby at_71) rfl (l' := #[.val (.int p1), .val (.int p2), .val (.int p3), .val (.int (0 : Int32)), .val (.ref w1), .val (.int (1 : Int32)), .val (.int (2 : Int32)), .val (.int (65535 : Int32)), .val (.int (32768 : Int32)), .unset, .unset]) rfl k) ?_
    show own_Go p e below K (T1.setTop (mkF m 73 #[.val (.int p1), .val (.int p2), .val (.int p3), .val (.int (0 : Int32)), .val (.ref w1), .val (.int (1 : Int32)), .val (.int (2 : Int32)), .val (.int (65535 : Int32)), .val (.int (32768 : Int32)), .unset, .unset] []))
    refine own_st (fun t k => XS.iloadN X1.here hx rfl (hb hby at_73) rfl k) ?_
    show own_Go p e below K (T1.setTop (mkF m 74 #[.val (.int p1), .val (.int p2), .val (.int p3), .val (.int (0 : Int32)), .val (.ref w1), .val (.int (1 : Int32)), .val (.int (2 : Int32)), .val (.int (65535 : Int32)), .val (.int (32768 : Int32)), .unset, .unset] [(.int p3)]))
    refine own_st (fun t k => XS.iload X1.here hx rfl (hb hby at_74) rfl k) ?_
    show own_Go p e below K (T1.setTop (mkF m 76 #[.val (.int p1), .val (.int p2), .val (.int p3), .val (.int (0 : Int32)), .val (.ref w1), .val (.int (1 : Int32)), .val (.int (2 : Int32)), .val (.int (65535 : Int32)), .val (.int (32768 : Int32)), .unset, .unset] [(.int (65535 : Int32)), (.int p3)]))
    refine own_st (fun t k => XS.iand X1.here hx rfl (hb hby at_76) rfl k) ?_
    show own_Go p e below K (T1.setTop (mkF m 77 #[.val (.int p1), .val (.int p2), .val (.int p3), .val (.int (0 : Int32)), .val (.ref w1), .val (.int (1 : Int32)), .val (.int (2 : Int32)), .val (.int (65535 : Int32)), .val (.int (32768 : Int32)), .unset, .unset] [(.int (p3 &&& (65535 : Int32)))]))
    generalize hru : (p3 &&& (65535 : Int32)) = ru
    show own_Go p e below K (T1.setTop (mkF m 77 #[.val (.int p1), .val (.int p2), .val (.int p3), .val (.int (0 : Int32)), .val (.ref w1), .val (.int (1 : Int32)), .val (.int (2 : Int32)), .val (.int (65535 : Int32)), .val (.int (32768 : Int32)), .unset, .unset] [(.int ru)]))
    refine own_st (fun t k => XS.istore X1.here hx rfl (hb hby at_77) rfl (l' := #[.val (.int p1), .val (.int p2), .val (.int p3), .val (.int (0 : Int32)), .val (.ref w1), .val (.int (1 : Int32)), .val (.int (2 : Int32)), .val (.int (65535 : Int32)), .val (.int (32768 : Int32)), .val (.int ru), .unset]) rfl k) ?_
    show own_Go p e below K (T1.setTop (mkF m 79 #[.val (.int p1), .val (.int p2), .val (.int p3), .val (.int (0 : Int32)), .val (.ref w1), .val (.int (1 : Int32)), .val (.int (2 : Int32)), .val (.int (65535 : Int32)), .val (.int (32768 : Int32)), .val (.int ru), .unset] []))
    refine own_st (fun t k => XS.iload X1.here hx rfl (hb hby at_79) rfl k) ?_
    show own_Go p e below K (T1.setTop (mkF m 81 #[.val (.int p1), .val (.int p2), .val (.int p3), .val (.int (0 : Int32)), .val (.ref w1), .val (.int (1 : Int32)), .val (.int (2 : Int32)), .val (.int (65535 : Int32)), .val (.int (32768 : Int32)), .val (.int ru), .unset] [(.int (1 : Int32))]))
    refine own_st (fun t k => XS.ifNo X1.here hx rfl (hb hby at_81) rfl ((if0 _ _).trans (feq (by decide : ¬ ((1 : Int32) = (0 : Int32)))).1) k) ?_
    show own_Go p e below K (T1.setTop (mkF m 84 #[.val (.int p1), .val (.int p2), .val (.int p3), .val (.int (0 : Int32)), .val (.ref w1), .val (.int (1 : Int32)), .val (.int (2 : Int32)), .val (.int (65535 : Int32)), .val (.int (32768 : Int32)), .val (.int ru), .unset] []))
    refine own_st (fun t k => XS.iload X1.here hx rfl (hb hby at_84) rfl k) ?_
    show own_Go p e below K (T1.setTop (mkF m 86 #[.val (.int p1), .val (.int p2), .val (.int p3), .val (.int (0 : Int32)), .val (.ref w1), .val (.int (1 : Int32)), .val (.int (2 : Int32)), .val (.int (65535 : Int32)), .val (.int (32768 : Int32)), .val (.int ru), .unset] [(.int ru)]))
    refine own_st (fun t k => XS.iload X1.here hx rfl (hb hby at_86) rfl k) ?_
    show own_Go p e below K (T1.setTop (mkF m 88 #[.val (.int p1), .val (.int p2), .val (.int p3), .val (.int (0 : Int32)), .val (.ref w1), .val (.int (1 : Int32)), .val (.int (2 : Int32)), .val (.int (65535 : Int32)), .val (.int (32768 : Int32)), .val (.int ru), .unset] [(.int (32768 : Int32)), (.int ru)]))
    by_cases hc88 : ru < (32768 : Int32)
    · refine own_st (fun t k => XS.icmpYes X1.here hx rfl (pc0 := 88) (pc' := 103) rfl (hb hby at_88) rfl (tlt hc88).1 (by decide) (by decide) k) ?_
      show own_Go p e below K (T1.setTop (mkF m 103 #[.val (.int p1), .val (.int p2), .val (.int p3), .val (.int (0 : Int32)), .val (.ref w1), .val (.int (1 : Int32)), .val (.int (2 : Int32)), .val (.int (65535 : Int32)), .val (.int (32768 : Int32)), .val (.int ru), .unset] []))
      refine own_st (fun t k => XS.iload X1.here hx rfl (hb hby at_103) rfl k) ?_
      show own_Go p e below K (T1.setTop (mkF m 105 #[.val (.int p1), .val (.int p2), .val (.int p3), .val (.int (0 : Int32)), .val (.ref w1), .val (.int (1 : Int32)), .val (.int (2 : Int32)), .val (.int (65535 : Int32)), .val (.int (32768 : Int32)), .val (.int ru), .unset] [(.int ru)]))
      refine own_st (fun t k => XS.istore X1.here hx rfl (hb hby at_105) rfl (l' := #[.val (.int p1), .val (.int p2), .val (.int p3), .val (.int (0 : Int32)), .val (.ref w1), .val (.int (1 : Int32)), .val (.int (2 : Int32)), .val (.int (65535 : Int32)), .val (.int (32768 : Int32)), .val (.int ru), .val (.int ru)]) rfl k) ?_
      show own_Go p e below K (T1.setTop (mkF m 107 #[.val (.int p1), .val (.int p2), .val (.int p3), .val (.int (0 : Int32)), .val (.ref w1), .val (.int (1 : Int32)), .val (.int (2 : Int32)), .val (.int (65535 : Int32)), .val (.int (32768 : Int32)), .val (.int ru), .val (.int ru)] []))
      refine own_st (fun t k => XS.aload X1.here hx rfl (hb hby at_107) rfl rfl k) ?_
      show own_Go p e below K (T1.setTop (mkF m 109 #[.val (.int p1), .val (.int p2), .val (.int p3), .val (.int (0 : Int32)), .val (.ref w1), .val (.int (1 : Int32)), .val (.int (2 : Int32)), .val (.int (65535 : Int32)), .val (.int (32768 : Int32)), .val (.int ru), .val (.int ru)] [(.ref w1)]))
      refine own_st (fun t k => XS.iload X1.here hx rfl (hb hby at_109) rfl k) ?_
      show own_Go p e below K (T1.setTop (mkF m 111 #[.val (.int p1), .val (.int p2), .val (.int p3), .val (.int (0 : Int32)), .val (.ref w1), .val (.int (1 : Int32)), .val (.int (2 : Int32)), .val (.int (65535 : Int32)), .val (.int (32768 : Int32)), .val (.int ru), .val (.int ru)] [(.int ru), (.ref w1)]))
      refine own_st (fun t k => XS.iload X1.here hx rfl (hb hby at_111) rfl k) ?_
      show own_Go p e below K (T1.setTop (mkF m 113 #[.val (.int p1), .val (.int p2), .val (.int p3), .val (.int (0 : Int32)), .val (.ref w1), .val (.int (1 : Int32)), .val (.int (2 : Int32)), .val (.int (65535 : Int32)), .val (.int (32768 : Int32)), .val (.int ru), .val (.int ru)] [(.int (2 : Int32)), (.int ru), (.ref w1)]))
      obtain ⟨cq4, kq4, qv4a, qv4b, qv4c⟩ := isOf hZ e1 P5
      obtain ⟨_, _, ⟨T4, L4, k4, n4⟩, -, X4, ⟨Lc4, hQ4, l4, y4, z4⟩, st4⟩ := X1.virtualBack hx (y := (⟨"com/example/micrologue/micrologue/OperandKind", "value", "(II)I"⟩ : MethodName)) (z := (⟨"com/example/micrologue/micrologue/OperandKind", "value", "(II)I"⟩ : MethodName)) hown (mvT hZ (hw _ (List.mem_of_getElem? (i := 10) rfl))) (mvT hZ (hw _ (List.mem_of_getElem? (i := 11) rfl))) (notFace_of_selects (args := #[]) (mvT hZ (hw _ (List.mem_of_getElem? (i := 13) rfl)))) (mvT hZ (hw _ (List.mem_of_getElem? (i := 13) rfl))) (mvT hZ (hw _ (List.mem_of_getElem? (i := 12) rfl))) (by decide) (backOf (W := 0) (rm2 l Z a0 hw [] w1 ru (2 : Int32) ((1 : Int32)) h0 n0 Z0 P10) hZ (hw _ (List.mem_of_getElem? (i := 14) rfl)) (hw _ (List.mem_of_getElem? (i := 6) rfl)) (by decide) (by decide)) qv4a qv4c (g := (mkF m 113 #[.val (.int p1), .val (.int p2), .val (.int p3), .val (.int (0 : Int32)), .val (.ref w1), .val (.int (1 : Int32)), .val (.int (2 : Int32)), .val (.int (65535 : Int32)), .val (.int (32768 : Int32)), .val (.int ru), .val (.int ru)] [(.int (2 : Int32)), (.int ru), (.ref w1)])) rfl (by rw [hml]; rfl) (Steps.refl _) (argsL := [(.int ru), (.int (2 : Int32))]) (rest := []) (lenOf pd_0_1 rfl) rfl (by show 2 * 0 + _ ≤ _; exact Nat.le_of_eq rfl) (hb hby at_113) (fun _ _ => ⟨rfl, e1, (by decide : 0 + 0 ≤ _), (by decide : 0 + 0 ≤ _)⟩)
      dsimp only [Pt.U, Pt.locs, Pt.cells, Pt.slots] at X4 l4 y4 z4 st4 hQ4
      subst l4 y4 z4
      obtain ⟨r4, rfl, hr4, N4q, e4⟩ := hQ4
      have N4 := Fr.app N1 N4q
      refine own_tr st4 ?_
      show own_Go p e below K (T4.setTop (mkF m 116 #[.val (.int p1), .val (.int p2), .val (.int p3), .val (.int (0 : Int32)), .val (.ref w1), .val (.int (1 : Int32)), .val (.int (2 : Int32)), .val (.int (65535 : Int32)), .val (.int (32768 : Int32)), .val (.int ru), .val (.int ru)] [(.int r4)]))
      refine own_st (fun t k => XS.iload X4.here hx rfl (hb hby at_116) rfl k) ?_
      show own_Go p e below K (T4.setTop (mkF m 118 #[.val (.int p1), .val (.int p2), .val (.int p3), .val (.int (0 : Int32)), .val (.ref w1), .val (.int (1 : Int32)), .val (.int (2 : Int32)), .val (.int (65535 : Int32)), .val (.int (32768 : Int32)), .val (.int ru), .val (.int ru)] [(.int ru), (.int r4)]))
      refine own_st (fun t k => XS.icmpNo X4.here hx rfl (hb hby at_118) rfl (teq (hr4.trans (own_a2 hru hc88) : r4 = ru)).2 k) ?_
      show own_Go p e below K (T4.setTop (mkF m 121 #[.val (.int p1), .val (.int p2), .val (.int p3), .val (.int (0 : Int32)), .val (.ref w1), .val (.int (1 : Int32)), .val (.int (2 : Int32)), .val (.int (65535 : Int32)), .val (.int (32768 : Int32)), .val (.int ru), .val (.int ru)] []))
      refine own_st (fun t k => XS.iconst X4.here hx rfl (hb hby at_121) k) ?_
      show own_Go p e below K (T4.setTop (mkF m 122 #[.val (.int p1), .val (.int p2), .val (.int p3), .val (.int (0 : Int32)), .val (.ref w1), .val (.int (1 : Int32)), .val (.int (2 : Int32)), .val (.int (65535 : Int32)), .val (.int (32768 : Int32)), .val (.int ru), .val (.int ru)] [(.int (1 : Int32))]))
      refine own_st (fun t k => XS.goto X4.here hx rfl (pc0 := 122) (pc' := 126) rfl (hb hby at_122) (by decide) (by decide) k) ?_
      show own_Go p e below K (T4.setTop (mkF m 126 #[.val (.int p1), .val (.int p2), .val (.int p3), .val (.int (0 : Int32)), .val (.ref w1), .val (.int (1 : Int32)), .val (.int (2 : Int32)), .val (.int (65535 : Int32)), .val (.int (32768 : Int32)), .val (.int ru), .val (.int ru)] [(.int (1 : Int32))]))
      obtain ⟨fs, hr, hrun, hended, hW, hsame⟩ := X4.leave (v := some (.int (nar .boolean (1 : Int32)))) (fun h => by rw [Bd.returns] at h; cases h)
      refine ⟨_, retN X4 hx (t := .boolean) Bd.returns (by simp) (hb hby at_126) hr, fin _ _ _ hrun hended ?_ ⟨⟨_, rfl⟩, hW, hsame.mono (by decide) (by decide)⟩⟩
      show Q0 Z p1 p2 p3 w1 w2 w3 w4 w5 h0 n0 _ T4.heap _
      rw [e4]
      exact ⟨rfl, N4⟩
    refine own_st (fun t k => XS.icmpNo X1.here hx rfl (hb hby at_88) rfl (flt hc88).1 k) ?_
    show own_Go p e below K (T1.setTop (mkF m 91 #[.val (.int p1), .val (.int p2), .val (.int p3), .val (.int (0 : Int32)), .val (.ref w1), .val (.int (1 : Int32)), .val (.int (2 : Int32)), .val (.int (65535 : Int32)), .val (.int (32768 : Int32)), .val (.int ru), .unset] []))
    refine own_st (fun t k => XS.iload X1.here hx rfl (hb hby at_91) rfl k) ?_
    show own_Go p e below K (T1.setTop (mkF m 93 #[.val (.int p1), .val (.int p2), .val (.int p3), .val (.int (0 : Int32)), .val (.ref w1), .val (.int (1 : Int32)), .val (.int (2 : Int32)), .val (.int (65535 : Int32)), .val (.int (32768 : Int32)), .val (.int ru), .unset] [(.int ru)]))
    refine own_st (fun t k => XS.iload X1.here hx rfl (hb hby at_93) rfl k) ?_
    show own_Go p e below K (T1.setTop (mkF m 95 #[.val (.int p1), .val (.int p2), .val (.int p3), .val (.int (0 : Int32)), .val (.ref w1), .val (.int (1 : Int32)), .val (.int (2 : Int32)), .val (.int (65535 : Int32)), .val (.int (32768 : Int32)), .val (.int ru), .unset] [(.int (65535 : Int32)), (.int ru)]))
    refine own_st (fun t k => XS.iconst X1.here hx rfl (hb hby at_95) k) ?_
    show own_Go p e below K (T1.setTop (mkF m 96 #[.val (.int p1), .val (.int p2), .val (.int p3), .val (.int (0 : Int32)), .val (.ref w1), .val (.int (1 : Int32)), .val (.int (2 : Int32)), .val (.int (65535 : Int32)), .val (.int (32768 : Int32)), .val (.int ru), .unset] [(.int (1 : Int32)), (.int (65535 : Int32)), (.int ru)]))
    refine own_st (fun t k => XS.iadd X1.here hx rfl (hb hby at_96) rfl k) ?_
    show own_Go p e below K (T1.setTop (mkF m 97 #[.val (.int p1), .val (.int p2), .val (.int p3), .val (.int (0 : Int32)), .val (.ref w1), .val (.int (1 : Int32)), .val (.int (2 : Int32)), .val (.int (65535 : Int32)), .val (.int (32768 : Int32)), .val (.int ru), .unset] [(.int ((65535 : Int32) + (1 : Int32))), (.int ru)]))
    rw [show ((65535 : Int32) + (1 : Int32)) = (65536 : Int32) from by decide]
    show own_Go p e below K (T1.setTop (mkF m 97 #[.val (.int p1), .val (.int p2), .val (.int p3), .val (.int (0 : Int32)), .val (.ref w1), .val (.int (1 : Int32)), .val (.int (2 : Int32)), .val (.int (65535 : Int32)), .val (.int (32768 : Int32)), .val (.int ru), .unset] [(.int (65536 : Int32)), (.int ru)]))
    refine own_st (fun t k => XS.isub X1.here hx rfl (hb hby at_97) rfl k) ?_
    show own_Go p e below K (T1.setTop (mkF m 98 #[.val (.int p1), .val (.int p2), .val (.int p3), .val (.int (0 : Int32)), .val (.ref w1), .val (.int (1 : Int32)), .val (.int (2 : Int32)), .val (.int (65535 : Int32)), .val (.int (32768 : Int32)), .val (.int ru), .unset] [(.int (ru - (65536 : Int32)))]))
    refine own_st (fun t k => XS.istore X1.here hx rfl (hb hby at_98) rfl (l' := #[.val (.int p1), .val (.int p2), .val (.int p3), .val (.int (0 : Int32)), .val (.ref w1), .val (.int (1 : Int32)), .val (.int (2 : Int32)), .val (.int (65535 : Int32)), .val (.int (32768 : Int32)), .val (.int ru), .val (.int (ru - (65536 : Int32)))]) rfl k) ?_
    show own_Go p e below K (T1.setTop (mkF m 100 #[.val (.int p1), .val (.int p2), .val (.int p3), .val (.int (0 : Int32)), .val (.ref w1), .val (.int (1 : Int32)), .val (.int (2 : Int32)), .val (.int (65535 : Int32)), .val (.int (32768 : Int32)), .val (.int ru), .val (.int (ru - (65536 : Int32)))] []))
    refine own_st (fun t k => XS.goto X1.here hx rfl (pc0 := 100) (pc' := 107) rfl (hb hby at_100) (by decide) (by decide) k) ?_
    show own_Go p e below K (T1.setTop (mkF m 107 #[.val (.int p1), .val (.int p2), .val (.int p3), .val (.int (0 : Int32)), .val (.ref w1), .val (.int (1 : Int32)), .val (.int (2 : Int32)), .val (.int (65535 : Int32)), .val (.int (32768 : Int32)), .val (.int ru), .val (.int (ru - (65536 : Int32)))] []))
    refine own_st (fun t k => XS.aload X1.here hx rfl (hb hby at_107) rfl rfl k) ?_
    show own_Go p e below K (T1.setTop (mkF m 109 #[.val (.int p1), .val (.int p2), .val (.int p3), .val (.int (0 : Int32)), .val (.ref w1), .val (.int (1 : Int32)), .val (.int (2 : Int32)), .val (.int (65535 : Int32)), .val (.int (32768 : Int32)), .val (.int ru), .val (.int (ru - (65536 : Int32)))] [(.ref w1)]))
    refine own_st (fun t k => XS.iload X1.here hx rfl (hb hby at_109) rfl k) ?_
    show own_Go p e below K (T1.setTop (mkF m 111 #[.val (.int p1), .val (.int p2), .val (.int p3), .val (.int (0 : Int32)), .val (.ref w1), .val (.int (1 : Int32)), .val (.int (2 : Int32)), .val (.int (65535 : Int32)), .val (.int (32768 : Int32)), .val (.int ru), .val (.int (ru - (65536 : Int32)))] [(.int ru), (.ref w1)]))
    refine own_st (fun t k => XS.iload X1.here hx rfl (hb hby at_111) rfl k) ?_
    show own_Go p e below K (T1.setTop (mkF m 113 #[.val (.int p1), .val (.int p2), .val (.int p3), .val (.int (0 : Int32)), .val (.ref w1), .val (.int (1 : Int32)), .val (.int (2 : Int32)), .val (.int (65535 : Int32)), .val (.int (32768 : Int32)), .val (.int ru), .val (.int (ru - (65536 : Int32)))] [(.int (2 : Int32)), (.int ru), (.ref w1)]))
    obtain ⟨cq5, kq5, qv5a, qv5b, qv5c⟩ := isOf hZ e1 P5
    obtain ⟨_, _, ⟨T5, L5, k5, n5⟩, -, X5, ⟨Lc5, hQ5, l5, y5, z5⟩, st5⟩ := X1.virtualBack hx (y := (⟨"com/example/micrologue/micrologue/OperandKind", "value", "(II)I"⟩ : MethodName)) (z := (⟨"com/example/micrologue/micrologue/OperandKind", "value", "(II)I"⟩ : MethodName)) hown (mvT hZ (hw _ (List.mem_of_getElem? (i := 10) rfl))) (mvT hZ (hw _ (List.mem_of_getElem? (i := 11) rfl))) (notFace_of_selects (args := #[]) (mvT hZ (hw _ (List.mem_of_getElem? (i := 13) rfl)))) (mvT hZ (hw _ (List.mem_of_getElem? (i := 13) rfl))) (mvT hZ (hw _ (List.mem_of_getElem? (i := 12) rfl))) (by decide) (backOf (W := 0) (rm2 l Z a0 hw [] w1 ru (2 : Int32) ((1 : Int32)) h0 n0 Z0 P10) hZ (hw _ (List.mem_of_getElem? (i := 14) rfl)) (hw _ (List.mem_of_getElem? (i := 6) rfl)) (by decide) (by decide)) qv5a qv5c (g := (mkF m 113 #[.val (.int p1), .val (.int p2), .val (.int p3), .val (.int (0 : Int32)), .val (.ref w1), .val (.int (1 : Int32)), .val (.int (2 : Int32)), .val (.int (65535 : Int32)), .val (.int (32768 : Int32)), .val (.int ru), .val (.int (ru - (65536 : Int32)))] [(.int (2 : Int32)), (.int ru), (.ref w1)])) rfl (by rw [hml]; rfl) (Steps.refl _) (argsL := [(.int ru), (.int (2 : Int32))]) (rest := []) (lenOf pd_0_1 rfl) rfl (by show 2 * 0 + _ ≤ _; exact Nat.le_of_eq rfl) (hb hby at_113) (fun _ _ => ⟨rfl, e1, (by decide : 0 + 0 ≤ _), (by decide : 0 + 0 ≤ _)⟩)
    dsimp only [Pt.U, Pt.locs, Pt.cells, Pt.slots] at X5 l5 y5 z5 st5 hQ5
    subst l5 y5 z5
    obtain ⟨r5, rfl, hr5, N5q, e5⟩ := hQ5
    have N5 := Fr.app N1 N5q
    refine own_tr st5 ?_
    show own_Go p e below K (T5.setTop (mkF m 116 #[.val (.int p1), .val (.int p2), .val (.int p3), .val (.int (0 : Int32)), .val (.ref w1), .val (.int (1 : Int32)), .val (.int (2 : Int32)), .val (.int (65535 : Int32)), .val (.int (32768 : Int32)), .val (.int ru), .val (.int (ru - (65536 : Int32)))] [(.int r5)]))
    refine own_st (fun t k => XS.iload X5.here hx rfl (hb hby at_116) rfl k) ?_
    show own_Go p e below K (T5.setTop (mkF m 118 #[.val (.int p1), .val (.int p2), .val (.int p3), .val (.int (0 : Int32)), .val (.ref w1), .val (.int (1 : Int32)), .val (.int (2 : Int32)), .val (.int (65535 : Int32)), .val (.int (32768 : Int32)), .val (.int ru), .val (.int (ru - (65536 : Int32)))] [(.int (ru - (65536 : Int32))), (.int r5)]))
    refine own_st (fun t k => XS.icmpNo X5.here hx rfl (hb hby at_118) rfl (teq (hr5.trans (own_b2 hru hc88) : r5 = (ru - (65536 : Int32)))).2 k) ?_
    show own_Go p e below K (T5.setTop (mkF m 121 #[.val (.int p1), .val (.int p2), .val (.int p3), .val (.int (0 : Int32)), .val (.ref w1), .val (.int (1 : Int32)), .val (.int (2 : Int32)), .val (.int (65535 : Int32)), .val (.int (32768 : Int32)), .val (.int ru), .val (.int (ru - (65536 : Int32)))] []))
    refine own_st (fun t k => XS.iconst X5.here hx rfl (hb hby at_121) k) ?_
    show own_Go p e below K (T5.setTop (mkF m 122 #[.val (.int p1), .val (.int p2), .val (.int p3), .val (.int (0 : Int32)), .val (.ref w1), .val (.int (1 : Int32)), .val (.int (2 : Int32)), .val (.int (65535 : Int32)), .val (.int (32768 : Int32)), .val (.int ru), .val (.int (ru - (65536 : Int32)))] [(.int (1 : Int32))]))
    refine own_st (fun t k => XS.goto X5.here hx rfl (pc0 := 122) (pc' := 126) rfl (hb hby at_122) (by decide) (by decide) k) ?_
    show own_Go p e below K (T5.setTop (mkF m 126 #[.val (.int p1), .val (.int p2), .val (.int p3), .val (.int (0 : Int32)), .val (.ref w1), .val (.int (1 : Int32)), .val (.int (2 : Int32)), .val (.int (65535 : Int32)), .val (.int (32768 : Int32)), .val (.int ru), .val (.int (ru - (65536 : Int32)))] [(.int (1 : Int32))]))
    obtain ⟨fs, hr, hrun, hended, hW, hsame⟩ := X5.leave (v := some (.int (nar .boolean (1 : Int32)))) (fun h => by rw [Bd.returns] at h; cases h)
    refine ⟨_, retN X5 hx (t := .boolean) Bd.returns (by simp) (hb hby at_126) hr, fin _ _ _ hrun hended ?_ ⟨⟨_, rfl⟩, hW, hsame.mono (by decide) (by decide)⟩⟩
    show Q0 Z p1 p2 p3 w1 w2 w3 w4 w5 h0 n0 _ T5.heap _
    rw [e5]
    exact ⟨rfl, N5⟩
  · subst hs
    show own_Go p e below K (s₁.setTop (mkF m 6 #[.val (.int p1), .val (.int p2), .val (.int p3), .unset, .unset, .unset, .unset, .unset, .unset, .unset, .unset] [(.int (1 : Int32))]))
    refine own_st (fun t k => XS.istoreN X0.here hx rfl (hb hby at_6) rfl (l' := #[.val (.int p1), .val (.int p2), .val (.int p3), .val (.int (1 : Int32)), .unset, .unset, .unset, .unset, .unset, .unset, .unset]) rfl k) ?_
    show own_Go p e below K (s₁.setTop (mkF m 7 #[.val (.int p1), .val (.int p2), .val (.int p3), .val (.int (1 : Int32)), .unset, .unset, .unset, .unset, .unset, .unset, .unset] []))
    refine own_st (fun t k => XS.iloadN X0.here hx rfl (hb hby at_7) rfl k) ?_
    show own_Go p e below K (s₁.setTop (mkF m 8 #[.val (.int p1), .val (.int p2), .val (.int p3), .val (.int (1 : Int32)), .unset, .unset, .unset, .unset, .unset, .unset, .unset] [(.int (1 : Int32))]))
    obtain ⟨_, _, ⟨T6, L6, k6, n6⟩, -, X6, ⟨Lc6, hQ6, l6, y6, z6⟩, st6⟩ := Jvm.LawKit.callS X0 hx (y := (⟨"com/example/micrologue/micrologue/OperandKindValuePinLaw", "kindOf", "(I)Lcom/example/micrologue/micrologue/OperandKind;"⟩ : MethodName)) hown (mvT hZ (hw _ (List.mem_of_getElem? (i := 1) rfl))) (mvT hZ (hw _ (List.mem_of_getElem? (i := 2) rfl))) (mvT hZ (hw _ (List.mem_of_getElem? (i := 3) rfl))) (mvT hZ (hw _ (List.mem_of_getElem? (i := 4) rfl))) (by decide) (backOf (W := 0) (rm1 l Z a0 hw [] (1 : Int32) (w1) (w2) (w3) (w4) (w5) h0 n0 Z0 P0 P1 P2 P3 P4) hZ (hw _ (List.mem_of_getElem? (i := 4) rfl)) (hw _ (List.mem_of_getElem? (i := 3) rfl)) (by decide) (by decide)) (g := (mkF m 8 #[.val (.int p1), .val (.int p2), .val (.int p3), .val (.int (1 : Int32)), .unset, .unset, .unset, .unset, .unset, .unset, .unset] [(.int (1 : Int32))])) rfl (by rw [hml]; rfl) (argsL := [(.int (1 : Int32))]) (rest := []) (lenOf pd_0_0 rfl) rfl (by show 2 * 0 + _ ≤ _; exact Nat.le_of_eq rfl) (hb hby at_8) (fun _ _ => ⟨rfl, e0, (by decide : 0 + 0 ≤ _), (by decide : 0 + 0 ≤ _)⟩)
    dsimp only [Pt.U, Pt.locs, Pt.cells, Pt.slots] at X6 l6 y6 z6 st6 hQ6
    subst l6 y6 z6
    obtain ⟨r6, rfl, hr6, N6q, e6⟩ := hQ6
    have N6 := Fr.app N0 N6q
    refine own_st st6 ?_
    show own_Go p e below K (T6.setTop (mkF m 11 #[.val (.int p1), .val (.int p2), .val (.int p3), .val (.int (1 : Int32)), .unset, .unset, .unset, .unset, .unset, .unset, .unset] [(.ref r6)]))
    have hs := ((hr6.trans (own_k1 w1 w2 w3 w4 w5)).symm : w2 = r6)
    subst hs
    show own_Go p e below K (T6.setTop (mkF m 11 #[.val (.int p1), .val (.int p2), .val (.int p3), .val (.int (1 : Int32)), .unset, .unset, .unset, .unset, .unset, .unset, .unset] [(.ref w2)]))
    refine own_st (fun t k => XS.astore X6.here hx rfl (hb hby at_11) rfl rfl (l' := #[.val (.int p1), .val (.int p2), .val (.int p3), .val (.int (1 : Int32)), .val (.ref w2), .unset, .unset, .unset, .unset, .unset, .unset]) rfl k) ?_
    show own_Go p e below K (T6.setTop (mkF m 13 #[.val (.int p1), .val (.int p2), .val (.int p3), .val (.int (1 : Int32)), .val (.ref w2), .unset, .unset, .unset, .unset, .unset, .unset] []))
    refine own_st (fun t k => XS.iloadN X6.here hx rfl (hb hby at_13) rfl k) ?_
    show own_Go p e below K (T6.setTop (mkF m 14 #[.val (.int p1), .val (.int p2), .val (.int p3), .val (.int (1 : Int32)), .val (.ref w2), .unset, .unset, .unset, .unset, .unset, .unset] [(.int (1 : Int32))]))
    refine own_st (fun t k => XS.ifNo X6.here hx rfl (hb hby at_14) rfl ((if0 _ _).trans (feq (by decide : ¬ ((1 : Int32) = (0 : Int32)))).1) k) ?_
    show own_Go p e below K (T6.setTop (mkF m 17 #[.val (.int p1), .val (.int p2), .val (.int p3), .val (.int (1 : Int32)), .val (.ref w2), .unset, .unset, .unset, .unset, .unset, .unset] []))
    refine own_st (fun t k => XS.iloadN X6.here hx rfl (hb hby at_17) rfl k) ?_
    show own_Go p e below K (T6.setTop (mkF m 18 #[.val (.int p1), .val (.int p2), .val (.int p3), .val (.int (1 : Int32)), .val (.ref w2), .unset, .unset, .unset, .unset, .unset, .unset] [(.int (1 : Int32))]))
    refine own_st (fun t k => XS.iconst X6.here hx rfl (hb hby at_18) k) ?_
    show own_Go p e below K (T6.setTop (mkF m 19 #[.val (.int p1), .val (.int p2), .val (.int p3), .val (.int (1 : Int32)), .val (.ref w2), .unset, .unset, .unset, .unset, .unset, .unset] [(.int (1 : Int32)), (.int (1 : Int32))]))
    refine own_st (fun t k => XS.icmpYes X6.here hx rfl (pc0 := 19) (pc' := 27) rfl (hb hby at_19) rfl (teq (by decide : (1 : Int32) = (1 : Int32))).1 (by decide) (by decide) k) ?_
    show own_Go p e below K (T6.setTop (mkF m 27 #[.val (.int p1), .val (.int p2), .val (.int p3), .val (.int (1 : Int32)), .val (.ref w2), .unset, .unset, .unset, .unset, .unset, .unset] []))
    refine own_st (fun t k => XS.iconst X6.here hx rfl (hb hby at_27) k) ?_
    show own_Go p e below K (T6.setTop (mkF m 28 #[.val (.int p1), .val (.int p2), .val (.int p3), .val (.int (1 : Int32)), .val (.ref w2), .unset, .unset, .unset, .unset, .unset, .unset] [(.int (1 : Int32))]))
    refine own_st (fun t k => XS.goto X6.here hx rfl (pc0 := 28) (pc' := 32) rfl (hb hby at_28) (by decide) (by decide) k) ?_
    show own_Go p e below K (T6.setTop (mkF m 32 #[.val (.int p1), .val (.int p2), .val (.int p3), .val (.int (1 : Int32)), .val (.ref w2), .unset, .unset, .unset, .unset, .unset, .unset] [(.int (1 : Int32))]))
    refine own_st (fun t k => XS.istore X6.here hx rfl (hb hby at_32) rfl (l' := #[.val (.int p1), .val (.int p2), .val (.int p3), .val (.int (1 : Int32)), .val (.ref w2), .val (.int (1 : Int32)), .unset, .unset, .unset, .unset, .unset]) rfl k) ?_
    show own_Go p e below K (T6.setTop (mkF m 34 #[.val (.int p1), .val (.int p2), .val (.int p3), .val (.int (1 : Int32)), .val (.ref w2), .val (.int (1 : Int32)), .unset, .unset, .unset, .unset, .unset] []))
    refine own_st (fun t k => XS.iconst X6.here hx rfl (hb hby at_34) k) ?_
    show own_Go p e below K (T6.setTop (mkF m 35 #[.val (.int p1), .val (.int p2), .val (.int p3), .val (.int (1 : Int32)), .val (.ref w2), .val (.int (1 : Int32)), .unset, .unset, .unset, .unset, .unset] [(.int (1 : Int32))]))
    refine own_st (fun t k => XS.iloadN X6.here hx rfl (hb hby at_35) rfl k) ?_
    show own_Go p e below K (T6.setTop (mkF m 36 #[.val (.int p1), .val (.int p2), .val (.int p3), .val (.int (1 : Int32)), .val (.ref w2), .val (.int (1 : Int32)), .unset, .unset, .unset, .unset, .unset] [(.int p2), (.int (1 : Int32))]))
    refine own_st (fun t k => XS.iconst X6.here hx rfl (hb hby at_36) k) ?_
    show own_Go p e below K (T6.setTop (mkF m 37 #[.val (.int p1), .val (.int p2), .val (.int p3), .val (.int (1 : Int32)), .val (.ref w2), .val (.int (1 : Int32)), .unset, .unset, .unset, .unset, .unset] [(.int (1 : Int32)), (.int p2), (.int (1 : Int32))]))
    refine own_st (fun t k => XS.iand X6.here hx rfl (hb hby at_37) rfl k) ?_
    show own_Go p e below K (T6.setTop (mkF m 38 #[.val (.int p1), .val (.int p2), .val (.int p3), .val (.int (1 : Int32)), .val (.ref w2), .val (.int (1 : Int32)), .unset, .unset, .unset, .unset, .unset] [(.int (p2 &&& (1 : Int32))), (.int (1 : Int32))]))
    refine own_st (fun t k => XS.iadd X6.here hx rfl (hb hby at_38) rfl k) ?_
    show own_Go p e below K (T6.setTop (mkF m 39 #[.val (.int p1), .val (.int p2), .val (.int p3), .val (.int (1 : Int32)), .val (.ref w2), .val (.int (1 : Int32)), .unset, .unset, .unset, .unset, .unset] [(.int ((1 : Int32) + (p2 &&& (1 : Int32))))]))
    generalize hnb : ((1 : Int32) + (p2 &&& (1 : Int32))) = nb
    show own_Go p e below K (T6.setTop (mkF m 39 #[.val (.int p1), .val (.int p2), .val (.int p3), .val (.int (1 : Int32)), .val (.ref w2), .val (.int (1 : Int32)), .unset, .unset, .unset, .unset, .unset] [(.int nb)]))
    rcases own_nbb hnb with hs | hs
    · subst hs
      show own_Go p e below K (T6.setTop (mkF m 39 #[.val (.int p1), .val (.int p2), .val (.int p3), .val (.int (1 : Int32)), .val (.ref w2), .val (.int (1 : Int32)), .unset, .unset, .unset, .unset, .unset] [(.int (1 : Int32))]))
      refine own_st (fun t k => XS.istore X6.here hx rfl (hb hby at_39) rfl (l' := #[.val (.int p1), .val (.int p2), .val (.int p3), .val (.int (1 : Int32)), .val (.ref w2), .val (.int (1 : Int32)), .val (.int (1 : Int32)), .unset, .unset, .unset, .unset]) rfl k) ?_
      show own_Go p e below K (T6.setTop (mkF m 41 #[.val (.int p1), .val (.int p2), .val (.int p3), .val (.int (1 : Int32)), .val (.ref w2), .val (.int (1 : Int32)), .val (.int (1 : Int32)), .unset, .unset, .unset, .unset] []))
      refine own_st (fun t k => XS.iload X6.here hx rfl (hb hby at_41) rfl k) ?_
      show own_Go p e below K (T6.setTop (mkF m 43 #[.val (.int p1), .val (.int p2), .val (.int p3), .val (.int (1 : Int32)), .val (.ref w2), .val (.int (1 : Int32)), .val (.int (1 : Int32)), .unset, .unset, .unset, .unset] [(.int (1 : Int32))]))
      refine own_st (fun t k => XS.iconst X6.here hx rfl (hb hby at_43) k) ?_
      show own_Go p e below K (T6.setTop (mkF m 44 #[.val (.int p1), .val (.int p2), .val (.int p3), .val (.int (1 : Int32)), .val (.ref w2), .val (.int (1 : Int32)), .val (.int (1 : Int32)), .unset, .unset, .unset, .unset] [(.int (1 : Int32)), (.int (1 : Int32))]))
      refine own_st (fun t k => XS.icmpNo X6.here hx rfl (hb hby at_44) rfl (teq (by decide : (1 : Int32) = (1 : Int32))).2 k) ?_
      show own_Go p e below K (T6.setTop (mkF m 47 #[.val (.int p1), .val (.int p2), .val (.int p3), .val (.int (1 : Int32)), .val (.ref w2), .val (.int (1 : Int32)), .val (.int (1 : Int32)), .unset, .unset, .unset, .unset] []))
      refine own_st (fun t k => XS.sipush X6.here hx rfl (hb hby at_47) k) ?_
      show own_Go p e below K (T6.setTop (mkF m 50 #[.val (.int p1), .val (.int p2), .val (.int p3), .val (.int (1 : Int32)), .val (.ref w2), .val (.int (1 : Int32)), .val (.int (1 : Int32)), .unset, .unset, .unset, .unset] [(.int (255 : Int32))]))
      refine own_st (fun t k => XS.goto X6.here hx rfl (pc0 := 50) (pc' := 55) rfl (hb hby at_50) (by decide) (by decide) k) ?_
      show own_Go p e below K (T6.setTop (mkF m 55 #[.val (.int p1), .val (.int p2), .val (.int p3), .val (.int (1 : Int32)), .val (.ref w2), .val (.int (1 : Int32)), .val (.int (1 : Int32)), .unset, .unset, .unset, .unset] [(.int (255 : Int32))]))
      refine own_st (fun t k => XS.istore X6.here hx rfl (hb hby at_55) rfl (l' := #[.val (.int p1), .val (.int p2), .val (.int p3), .val (.int (1 : Int32)), .val (.ref w2), .val (.int (1 : Int32)), .val (.int (1 : Int32)), .val (.int (255 : Int32)), .unset, .unset, .unset]) rfl k) ?_
      show own_Go p e below K (T6.setTop (mkF m 57 #[.val (.int p1), .val (.int p2), .val (.int p3), .val (.int (1 : Int32)), .val (.ref w2), .val (.int (1 : Int32)), .val (.int (1 : Int32)), .val (.int (255 : Int32)), .unset, .unset, .unset] []))
      refine own_st (fun t k => XS.iload X6.here hx rfl (hb hby at_57) rfl k) ?_
      show own_Go p e below K (T6.setTop (mkF m 59 #[.val (.int p1), .val (.int p2), .val (.int p3), .val (.int (1 : Int32)), .val (.ref w2), .val (.int (1 : Int32)), .val (.int (1 : Int32)), .val (.int (255 : Int32)), .unset, .unset, .unset] [(.int (1 : Int32))]))
      refine own_st (fun t k => XS.iconst X6.here hx rfl (hb hby at_59) k) ?_
      show own_Go p e below K (T6.setTop (mkF m 60 #[.val (.int p1), .val (.int p2), .val (.int p3), .val (.int (1 : Int32)), .val (.ref w2), .val (.int (1 : Int32)), .val (.int (1 : Int32)), .val (.int (255 : Int32)), .unset, .unset, .unset] [(.int (1 : Int32)), (.int (1 : Int32))]))
      refine own_st (fun t k => XS.icmpNo X6.here hx rfl (hb hby at_60) rfl (teq (by decide : (1 : Int32) = (1 : Int32))).2 k) ?_
      show own_Go p e below K (T6.setTop (mkF m 63 #[.val (.int p1), .val (.int p2), .val (.int p3), .val (.int (1 : Int32)), .val (.ref w2), .val (.int (1 : Int32)), .val (.int (1 : Int32)), .val (.int (255 : Int32)), .unset, .unset, .unset] []))
      refine own_st (fun t k => XS.sipush X6.here hx rfl (hb hby at_63) k) ?_
      show own_Go p e below K (T6.setTop (mkF m 66 #[.val (.int p1), .val (.int p2), .val (.int p3), .val (.int (1 : Int32)), .val (.ref w2), .val (.int (1 : Int32)), .val (.int (1 : Int32)), .val (.int (255 : Int32)), .unset, .unset, .unset] [(.int (128 : Int32))]))
      refine own_st (fun t k => XS.goto X6.here hx rfl (pc0 := 66) (pc' := 71) rfl (hb hby at_66) (by decide) (by decide) k) ?_
      show own_Go p e below K (T6.setTop (mkF m 71 #[.val (.int p1), .val (.int p2), .val (.int p3), .val (.int (1 : Int32)), .val (.ref w2), .val (.int (1 : Int32)), .val (.int (1 : Int32)), .val (.int (255 : Int32)), .unset, .unset, .unset] [(.int (128 : Int32))]))
      refine own_st (fun t k => XS.istore X6.here hx rfl (hb hby at_71) rfl (l' := #[.val (.int p1), .val (.int p2), .val (.int p3), .val (.int (1 : Int32)), .val (.ref w2), .val (.int (1 : Int32)), .val (.int (1 : Int32)), .val (.int (255 : Int32)), .val (.int (128 : Int32)), .unset, .unset]) rfl k) ?_
      show own_Go p e below K (T6.setTop (mkF m 73 #[.val (.int p1), .val (.int p2), .val (.int p3), .val (.int (1 : Int32)), .val (.ref w2), .val (.int (1 : Int32)), .val (.int (1 : Int32)), .val (.int (255 : Int32)), .val (.int (128 : Int32)), .unset, .unset] []))
      refine own_st (fun t k => XS.iloadN X6.here hx rfl (hb hby at_73) rfl k) ?_
      show own_Go p e below K (T6.setTop (mkF m 74 #[.val (.int p1), .val (.int p2), .val (.int p3), .val (.int (1 : Int32)), .val (.ref w2), .val (.int (1 : Int32)), .val (.int (1 : Int32)), .val (.int (255 : Int32)), .val (.int (128 : Int32)), .unset, .unset] [(.int p3)]))
      refine own_st (fun t k => XS.iload X6.here hx rfl (hb hby at_74) rfl k) ?_
      show own_Go p e below K (T6.setTop (mkF m 76 #[.val (.int p1), .val (.int p2), .val (.int p3), .val (.int (1 : Int32)), .val (.ref w2), .val (.int (1 : Int32)), .val (.int (1 : Int32)), .val (.int (255 : Int32)), .val (.int (128 : Int32)), .unset, .unset] [(.int (255 : Int32)), (.int p3)]))
      refine own_st (fun t k => XS.iand X6.here hx rfl (hb hby at_76) rfl k) ?_
      show own_Go p e below K (T6.setTop (mkF m 77 #[.val (.int p1), .val (.int p2), .val (.int p3), .val (.int (1 : Int32)), .val (.ref w2), .val (.int (1 : Int32)), .val (.int (1 : Int32)), .val (.int (255 : Int32)), .val (.int (128 : Int32)), .unset, .unset] [(.int (p3 &&& (255 : Int32)))]))
      generalize hru : (p3 &&& (255 : Int32)) = ru
      show own_Go p e below K (T6.setTop (mkF m 77 #[.val (.int p1), .val (.int p2), .val (.int p3), .val (.int (1 : Int32)), .val (.ref w2), .val (.int (1 : Int32)), .val (.int (1 : Int32)), .val (.int (255 : Int32)), .val (.int (128 : Int32)), .unset, .unset] [(.int ru)]))
      refine own_st (fun t k => XS.istore X6.here hx rfl (hb hby at_77) rfl (l' := #[.val (.int p1), .val (.int p2), .val (.int p3), .val (.int (1 : Int32)), .val (.ref w2), .val (.int (1 : Int32)), .val (.int (1 : Int32)), .val (.int (255 : Int32)), .val (.int (128 : Int32)), .val (.int ru), .unset]) rfl k) ?_
      show own_Go p e below K (T6.setTop (mkF m 79 #[.val (.int p1), .val (.int p2), .val (.int p3), .val (.int (1 : Int32)), .val (.ref w2), .val (.int (1 : Int32)), .val (.int (1 : Int32)), .val (.int (255 : Int32)), .val (.int (128 : Int32)), .val (.int ru), .unset] []))
      refine own_st (fun t k => XS.iload X6.here hx rfl (hb hby at_79) rfl k) ?_
      show own_Go p e below K (T6.setTop (mkF m 81 #[.val (.int p1), .val (.int p2), .val (.int p3), .val (.int (1 : Int32)), .val (.ref w2), .val (.int (1 : Int32)), .val (.int (1 : Int32)), .val (.int (255 : Int32)), .val (.int (128 : Int32)), .val (.int ru), .unset] [(.int (1 : Int32))]))
      refine own_st (fun t k => XS.ifNo X6.here hx rfl (hb hby at_81) rfl ((if0 _ _).trans (feq (by decide : ¬ ((1 : Int32) = (0 : Int32)))).1) k) ?_
      show own_Go p e below K (T6.setTop (mkF m 84 #[.val (.int p1), .val (.int p2), .val (.int p3), .val (.int (1 : Int32)), .val (.ref w2), .val (.int (1 : Int32)), .val (.int (1 : Int32)), .val (.int (255 : Int32)), .val (.int (128 : Int32)), .val (.int ru), .unset] []))
      refine own_st (fun t k => XS.iload X6.here hx rfl (hb hby at_84) rfl k) ?_
      show own_Go p e below K (T6.setTop (mkF m 86 #[.val (.int p1), .val (.int p2), .val (.int p3), .val (.int (1 : Int32)), .val (.ref w2), .val (.int (1 : Int32)), .val (.int (1 : Int32)), .val (.int (255 : Int32)), .val (.int (128 : Int32)), .val (.int ru), .unset] [(.int ru)]))
      refine own_st (fun t k => XS.iload X6.here hx rfl (hb hby at_86) rfl k) ?_
      show own_Go p e below K (T6.setTop (mkF m 88 #[.val (.int p1), .val (.int p2), .val (.int p3), .val (.int (1 : Int32)), .val (.ref w2), .val (.int (1 : Int32)), .val (.int (1 : Int32)), .val (.int (255 : Int32)), .val (.int (128 : Int32)), .val (.int ru), .unset] [(.int (128 : Int32)), (.int ru)]))
      by_cases hc88 : ru < (128 : Int32)
      · refine own_st (fun t k => XS.icmpYes X6.here hx rfl (pc0 := 88) (pc' := 103) rfl (hb hby at_88) rfl (tlt hc88).1 (by decide) (by decide) k) ?_
        show own_Go p e below K (T6.setTop (mkF m 103 #[.val (.int p1), .val (.int p2), .val (.int p3), .val (.int (1 : Int32)), .val (.ref w2), .val (.int (1 : Int32)), .val (.int (1 : Int32)), .val (.int (255 : Int32)), .val (.int (128 : Int32)), .val (.int ru), .unset] []))
        refine own_st (fun t k => XS.iload X6.here hx rfl (hb hby at_103) rfl k) ?_
        show own_Go p e below K (T6.setTop (mkF m 105 #[.val (.int p1), .val (.int p2), .val (.int p3), .val (.int (1 : Int32)), .val (.ref w2), .val (.int (1 : Int32)), .val (.int (1 : Int32)), .val (.int (255 : Int32)), .val (.int (128 : Int32)), .val (.int ru), .unset] [(.int ru)]))
        refine own_st (fun t k => XS.istore X6.here hx rfl (hb hby at_105) rfl (l' := #[.val (.int p1), .val (.int p2), .val (.int p3), .val (.int (1 : Int32)), .val (.ref w2), .val (.int (1 : Int32)), .val (.int (1 : Int32)), .val (.int (255 : Int32)), .val (.int (128 : Int32)), .val (.int ru), .val (.int ru)]) rfl k) ?_
        show own_Go p e below K (T6.setTop (mkF m 107 #[.val (.int p1), .val (.int p2), .val (.int p3), .val (.int (1 : Int32)), .val (.ref w2), .val (.int (1 : Int32)), .val (.int (1 : Int32)), .val (.int (255 : Int32)), .val (.int (128 : Int32)), .val (.int ru), .val (.int ru)] []))
        refine own_st (fun t k => XS.aload X6.here hx rfl (hb hby at_107) rfl rfl k) ?_
        show own_Go p e below K (T6.setTop (mkF m 109 #[.val (.int p1), .val (.int p2), .val (.int p3), .val (.int (1 : Int32)), .val (.ref w2), .val (.int (1 : Int32)), .val (.int (1 : Int32)), .val (.int (255 : Int32)), .val (.int (128 : Int32)), .val (.int ru), .val (.int ru)] [(.ref w2)]))
        refine own_st (fun t k => XS.iload X6.here hx rfl (hb hby at_109) rfl k) ?_
        show own_Go p e below K (T6.setTop (mkF m 111 #[.val (.int p1), .val (.int p2), .val (.int p3), .val (.int (1 : Int32)), .val (.ref w2), .val (.int (1 : Int32)), .val (.int (1 : Int32)), .val (.int (255 : Int32)), .val (.int (128 : Int32)), .val (.int ru), .val (.int ru)] [(.int ru), (.ref w2)]))
        refine own_st (fun t k => XS.iload X6.here hx rfl (hb hby at_111) rfl k) ?_
        show own_Go p e below K (T6.setTop (mkF m 113 #[.val (.int p1), .val (.int p2), .val (.int p3), .val (.int (1 : Int32)), .val (.ref w2), .val (.int (1 : Int32)), .val (.int (1 : Int32)), .val (.int (255 : Int32)), .val (.int (128 : Int32)), .val (.int ru), .val (.int ru)] [(.int (1 : Int32)), (.int ru), (.ref w2)]))
        obtain ⟨cq7, kq7, qv7a, qv7b, qv7c⟩ := isOf hZ e6 P6
        obtain ⟨_, _, ⟨T7, L7, k7, n7⟩, -, X7, ⟨Lc7, hQ7, l7, y7, z7⟩, st7⟩ := X6.virtualBack hx (y := (⟨"com/example/micrologue/micrologue/OperandKind", "value", "(II)I"⟩ : MethodName)) (z := (⟨"com/example/micrologue/micrologue/OperandKind", "value", "(II)I"⟩ : MethodName)) hown (mvT hZ (hw _ (List.mem_of_getElem? (i := 10) rfl))) (mvT hZ (hw _ (List.mem_of_getElem? (i := 11) rfl))) (notFace_of_selects (args := #[]) (mvT hZ (hw _ (List.mem_of_getElem? (i := 13) rfl)))) (mvT hZ (hw _ (List.mem_of_getElem? (i := 13) rfl))) (mvT hZ (hw _ (List.mem_of_getElem? (i := 12) rfl))) (by decide) (backOf (W := 0) (rm2 l Z a0 hw [] w2 ru (1 : Int32) ((1 : Int32)) h0 n0 Z0 P11) hZ (hw _ (List.mem_of_getElem? (i := 14) rfl)) (hw _ (List.mem_of_getElem? (i := 6) rfl)) (by decide) (by decide)) qv7a qv7c (g := (mkF m 113 #[.val (.int p1), .val (.int p2), .val (.int p3), .val (.int (1 : Int32)), .val (.ref w2), .val (.int (1 : Int32)), .val (.int (1 : Int32)), .val (.int (255 : Int32)), .val (.int (128 : Int32)), .val (.int ru), .val (.int ru)] [(.int (1 : Int32)), (.int ru), (.ref w2)])) rfl (by rw [hml]; rfl) (Steps.refl _) (argsL := [(.int ru), (.int (1 : Int32))]) (rest := []) (lenOf pd_0_1 rfl) rfl (by show 2 * 0 + _ ≤ _; exact Nat.le_of_eq rfl) (hb hby at_113) (fun _ _ => ⟨rfl, e6, (by decide : 0 + 0 ≤ _), (by decide : 0 + 0 ≤ _)⟩)
        dsimp only [Pt.U, Pt.locs, Pt.cells, Pt.slots] at X7 l7 y7 z7 st7 hQ7
        subst l7 y7 z7
        obtain ⟨r7, rfl, hr7, N7q, e7⟩ := hQ7
        have N7 := Fr.app N6 N7q
        refine own_tr st7 ?_
        show own_Go p e below K (T7.setTop (mkF m 116 #[.val (.int p1), .val (.int p2), .val (.int p3), .val (.int (1 : Int32)), .val (.ref w2), .val (.int (1 : Int32)), .val (.int (1 : Int32)), .val (.int (255 : Int32)), .val (.int (128 : Int32)), .val (.int ru), .val (.int ru)] [(.int r7)]))
        refine own_st (fun t k => XS.iload X7.here hx rfl (hb hby at_116) rfl k) ?_
        show own_Go p e below K (T7.setTop (mkF m 118 #[.val (.int p1), .val (.int p2), .val (.int p3), .val (.int (1 : Int32)), .val (.ref w2), .val (.int (1 : Int32)), .val (.int (1 : Int32)), .val (.int (255 : Int32)), .val (.int (128 : Int32)), .val (.int ru), .val (.int ru)] [(.int ru), (.int r7)]))
        refine own_st (fun t k => XS.icmpNo X7.here hx rfl (hb hby at_118) rfl (teq (hr7.trans (own_a1 hru hc88) : r7 = ru)).2 k) ?_
        show own_Go p e below K (T7.setTop (mkF m 121 #[.val (.int p1), .val (.int p2), .val (.int p3), .val (.int (1 : Int32)), .val (.ref w2), .val (.int (1 : Int32)), .val (.int (1 : Int32)), .val (.int (255 : Int32)), .val (.int (128 : Int32)), .val (.int ru), .val (.int ru)] []))
        refine own_st (fun t k => XS.iconst X7.here hx rfl (hb hby at_121) k) ?_
        show own_Go p e below K (T7.setTop (mkF m 122 #[.val (.int p1), .val (.int p2), .val (.int p3), .val (.int (1 : Int32)), .val (.ref w2), .val (.int (1 : Int32)), .val (.int (1 : Int32)), .val (.int (255 : Int32)), .val (.int (128 : Int32)), .val (.int ru), .val (.int ru)] [(.int (1 : Int32))]))
        refine own_st (fun t k => XS.goto X7.here hx rfl (pc0 := 122) (pc' := 126) rfl (hb hby at_122) (by decide) (by decide) k) ?_
        show own_Go p e below K (T7.setTop (mkF m 126 #[.val (.int p1), .val (.int p2), .val (.int p3), .val (.int (1 : Int32)), .val (.ref w2), .val (.int (1 : Int32)), .val (.int (1 : Int32)), .val (.int (255 : Int32)), .val (.int (128 : Int32)), .val (.int ru), .val (.int ru)] [(.int (1 : Int32))]))
        obtain ⟨fs, hr, hrun, hended, hW, hsame⟩ := X7.leave (v := some (.int (nar .boolean (1 : Int32)))) (fun h => by rw [Bd.returns] at h; cases h)
        refine ⟨_, retN X7 hx (t := .boolean) Bd.returns (by simp) (hb hby at_126) hr, fin _ _ _ hrun hended ?_ ⟨⟨_, rfl⟩, hW, hsame.mono (by decide) (by decide)⟩⟩
        show Q0 Z p1 p2 p3 w1 w2 w3 w4 w5 h0 n0 _ T7.heap _
        rw [e7]
        exact ⟨rfl, N7⟩
      refine own_st (fun t k => XS.icmpNo X6.here hx rfl (hb hby at_88) rfl (flt hc88).1 k) ?_
      show own_Go p e below K (T6.setTop (mkF m 91 #[.val (.int p1), .val (.int p2), .val (.int p3), .val (.int (1 : Int32)), .val (.ref w2), .val (.int (1 : Int32)), .val (.int (1 : Int32)), .val (.int (255 : Int32)), .val (.int (128 : Int32)), .val (.int ru), .unset] []))
      refine own_st (fun t k => XS.iload X6.here hx rfl (hb hby at_91) rfl k) ?_
      show own_Go p e below K (T6.setTop (mkF m 93 #[.val (.int p1), .val (.int p2), .val (.int p3), .val (.int (1 : Int32)), .val (.ref w2), .val (.int (1 : Int32)), .val (.int (1 : Int32)), .val (.int (255 : Int32)), .val (.int (128 : Int32)), .val (.int ru), .unset] [(.int ru)]))
      refine own_st (fun t k => XS.iload X6.here hx rfl (hb hby at_93) rfl k) ?_
      show own_Go p e below K (T6.setTop (mkF m 95 #[.val (.int p1), .val (.int p2), .val (.int p3), .val (.int (1 : Int32)), .val (.ref w2), .val (.int (1 : Int32)), .val (.int (1 : Int32)), .val (.int (255 : Int32)), .val (.int (128 : Int32)), .val (.int ru), .unset] [(.int (255 : Int32)), (.int ru)]))
      refine own_st (fun t k => XS.iconst X6.here hx rfl (hb hby at_95) k) ?_
      show own_Go p e below K (T6.setTop (mkF m 96 #[.val (.int p1), .val (.int p2), .val (.int p3), .val (.int (1 : Int32)), .val (.ref w2), .val (.int (1 : Int32)), .val (.int (1 : Int32)), .val (.int (255 : Int32)), .val (.int (128 : Int32)), .val (.int ru), .unset] [(.int (1 : Int32)), (.int (255 : Int32)), (.int ru)]))
      refine own_st (fun t k => XS.iadd X6.here hx rfl (hb hby at_96) rfl k) ?_
      show own_Go p e below K (T6.setTop (mkF m 97 #[.val (.int p1), .val (.int p2), .val (.int p3), .val (.int (1 : Int32)), .val (.ref w2), .val (.int (1 : Int32)), .val (.int (1 : Int32)), .val (.int (255 : Int32)), .val (.int (128 : Int32)), .val (.int ru), .unset] [(.int ((255 : Int32) + (1 : Int32))), (.int ru)]))
      rw [show ((255 : Int32) + (1 : Int32)) = (256 : Int32) from by decide]
      show own_Go p e below K (T6.setTop (mkF m 97 #[.val (.int p1), .val (.int p2), .val (.int p3), .val (.int (1 : Int32)), .val (.ref w2), .val (.int (1 : Int32)), .val (.int (1 : Int32)), .val (.int (255 : Int32)), .val (.int (128 : Int32)), .val (.int ru), .unset] [(.int (256 : Int32)), (.int ru)]))
      refine own_st (fun t k => XS.isub X6.here hx rfl (hb hby at_97) rfl k) ?_
      show own_Go p e below K (T6.setTop (mkF m 98 #[.val (.int p1), .val (.int p2), .val (.int p3), .val (.int (1 : Int32)), .val (.ref w2), .val (.int (1 : Int32)), .val (.int (1 : Int32)), .val (.int (255 : Int32)), .val (.int (128 : Int32)), .val (.int ru), .unset] [(.int (ru - (256 : Int32)))]))
      refine own_st (fun t k => XS.istore X6.here hx rfl (hb hby at_98) rfl (l' := #[.val (.int p1), .val (.int p2), .val (.int p3), .val (.int (1 : Int32)), .val (.ref w2), .val (.int (1 : Int32)), .val (.int (1 : Int32)), .val (.int (255 : Int32)), .val (.int (128 : Int32)), .val (.int ru), .val (.int (ru - (256 : Int32)))]) rfl k) ?_
      show own_Go p e below K (T6.setTop (mkF m 100 #[.val (.int p1), .val (.int p2), .val (.int p3), .val (.int (1 : Int32)), .val (.ref w2), .val (.int (1 : Int32)), .val (.int (1 : Int32)), .val (.int (255 : Int32)), .val (.int (128 : Int32)), .val (.int ru), .val (.int (ru - (256 : Int32)))] []))
      refine own_st (fun t k => XS.goto X6.here hx rfl (pc0 := 100) (pc' := 107) rfl (hb hby at_100) (by decide) (by decide) k) ?_
      show own_Go p e below K (T6.setTop (mkF m 107 #[.val (.int p1), .val (.int p2), .val (.int p3), .val (.int (1 : Int32)), .val (.ref w2), .val (.int (1 : Int32)), .val (.int (1 : Int32)), .val (.int (255 : Int32)), .val (.int (128 : Int32)), .val (.int ru), .val (.int (ru - (256 : Int32)))] []))
      refine own_st (fun t k => XS.aload X6.here hx rfl (hb hby at_107) rfl rfl k) ?_
      show own_Go p e below K (T6.setTop (mkF m 109 #[.val (.int p1), .val (.int p2), .val (.int p3), .val (.int (1 : Int32)), .val (.ref w2), .val (.int (1 : Int32)), .val (.int (1 : Int32)), .val (.int (255 : Int32)), .val (.int (128 : Int32)), .val (.int ru), .val (.int (ru - (256 : Int32)))] [(.ref w2)]))
      refine own_st (fun t k => XS.iload X6.here hx rfl (hb hby at_109) rfl k) ?_
      show own_Go p e below K (T6.setTop (mkF m 111 #[.val (.int p1), .val (.int p2), .val (.int p3), .val (.int (1 : Int32)), .val (.ref w2), .val (.int (1 : Int32)), .val (.int (1 : Int32)), .val (.int (255 : Int32)), .val (.int (128 : Int32)), .val (.int ru), .val (.int (ru - (256 : Int32)))] [(.int ru), (.ref w2)]))
      refine own_st (fun t k => XS.iload X6.here hx rfl (hb hby at_111) rfl k) ?_
      show own_Go p e below K (T6.setTop (mkF m 113 #[.val (.int p1), .val (.int p2), .val (.int p3), .val (.int (1 : Int32)), .val (.ref w2), .val (.int (1 : Int32)), .val (.int (1 : Int32)), .val (.int (255 : Int32)), .val (.int (128 : Int32)), .val (.int ru), .val (.int (ru - (256 : Int32)))] [(.int (1 : Int32)), (.int ru), (.ref w2)]))
      obtain ⟨cq8, kq8, qv8a, qv8b, qv8c⟩ := isOf hZ e6 P6
      obtain ⟨_, _, ⟨T8, L8, k8, n8⟩, -, X8, ⟨Lc8, hQ8, l8, y8, z8⟩, st8⟩ := X6.virtualBack hx (y := (⟨"com/example/micrologue/micrologue/OperandKind", "value", "(II)I"⟩ : MethodName)) (z := (⟨"com/example/micrologue/micrologue/OperandKind", "value", "(II)I"⟩ : MethodName)) hown (mvT hZ (hw _ (List.mem_of_getElem? (i := 10) rfl))) (mvT hZ (hw _ (List.mem_of_getElem? (i := 11) rfl))) (notFace_of_selects (args := #[]) (mvT hZ (hw _ (List.mem_of_getElem? (i := 13) rfl)))) (mvT hZ (hw _ (List.mem_of_getElem? (i := 13) rfl))) (mvT hZ (hw _ (List.mem_of_getElem? (i := 12) rfl))) (by decide) (backOf (W := 0) (rm2 l Z a0 hw [] w2 ru (1 : Int32) ((1 : Int32)) h0 n0 Z0 P11) hZ (hw _ (List.mem_of_getElem? (i := 14) rfl)) (hw _ (List.mem_of_getElem? (i := 6) rfl)) (by decide) (by decide)) qv8a qv8c (g := (mkF m 113 #[.val (.int p1), .val (.int p2), .val (.int p3), .val (.int (1 : Int32)), .val (.ref w2), .val (.int (1 : Int32)), .val (.int (1 : Int32)), .val (.int (255 : Int32)), .val (.int (128 : Int32)), .val (.int ru), .val (.int (ru - (256 : Int32)))] [(.int (1 : Int32)), (.int ru), (.ref w2)])) rfl (by rw [hml]; rfl) (Steps.refl _) (argsL := [(.int ru), (.int (1 : Int32))]) (rest := []) (lenOf pd_0_1 rfl) rfl (by show 2 * 0 + _ ≤ _; exact Nat.le_of_eq rfl) (hb hby at_113) (fun _ _ => ⟨rfl, e6, (by decide : 0 + 0 ≤ _), (by decide : 0 + 0 ≤ _)⟩)
      dsimp only [Pt.U, Pt.locs, Pt.cells, Pt.slots] at X8 l8 y8 z8 st8 hQ8
      subst l8 y8 z8
      obtain ⟨r8, rfl, hr8, N8q, e8⟩ := hQ8
      have N8 := Fr.app N6 N8q
      refine own_tr st8 ?_
      show own_Go p e below K (T8.setTop (mkF m 116 #[.val (.int p1), .val (.int p2), .val (.int p3), .val (.int (1 : Int32)), .val (.ref w2), .val (.int (1 : Int32)), .val (.int (1 : Int32)), .val (.int (255 : Int32)), .val (.int (128 : Int32)), .val (.int ru), .val (.int (ru - (256 : Int32)))] [(.int r8)]))
      refine own_st (fun t k => XS.iload X8.here hx rfl (hb hby at_116) rfl k) ?_
      show own_Go p e below K (T8.setTop (mkF m 118 #[.val (.int p1), .val (.int p2), .val (.int p3), .val (.int (1 : Int32)), .val (.ref w2), .val (.int (1 : Int32)), .val (.int (1 : Int32)), .val (.int (255 : Int32)), .val (.int (128 : Int32)), .val (.int ru), .val (.int (ru - (256 : Int32)))] [(.int (ru - (256 : Int32))), (.int r8)]))
      refine own_st (fun t k => XS.icmpNo X8.here hx rfl (hb hby at_118) rfl (teq (hr8.trans (own_b1 hru hc88) : r8 = (ru - (256 : Int32)))).2 k) ?_
      show own_Go p e below K (T8.setTop (mkF m 121 #[.val (.int p1), .val (.int p2), .val (.int p3), .val (.int (1 : Int32)), .val (.ref w2), .val (.int (1 : Int32)), .val (.int (1 : Int32)), .val (.int (255 : Int32)), .val (.int (128 : Int32)), .val (.int ru), .val (.int (ru - (256 : Int32)))] []))
      refine own_st (fun t k => XS.iconst X8.here hx rfl (hb hby at_121) k) ?_
      show own_Go p e below K (T8.setTop (mkF m 122 #[.val (.int p1), .val (.int p2), .val (.int p3), .val (.int (1 : Int32)), .val (.ref w2), .val (.int (1 : Int32)), .val (.int (1 : Int32)), .val (.int (255 : Int32)), .val (.int (128 : Int32)), .val (.int ru), .val (.int (ru - (256 : Int32)))] [(.int (1 : Int32))]))
      refine own_st (fun t k => XS.goto X8.here hx rfl (pc0 := 122) (pc' := 126) rfl (hb hby at_122) (by decide) (by decide) k) ?_
      show own_Go p e below K (T8.setTop (mkF m 126 #[.val (.int p1), .val (.int p2), .val (.int p3), .val (.int (1 : Int32)), .val (.ref w2), .val (.int (1 : Int32)), .val (.int (1 : Int32)), .val (.int (255 : Int32)), .val (.int (128 : Int32)), .val (.int ru), .val (.int (ru - (256 : Int32)))] [(.int (1 : Int32))]))
      obtain ⟨fs, hr, hrun, hended, hW, hsame⟩ := X8.leave (v := some (.int (nar .boolean (1 : Int32)))) (fun h => by rw [Bd.returns] at h; cases h)
      refine ⟨_, retN X8 hx (t := .boolean) Bd.returns (by simp) (hb hby at_126) hr, fin _ _ _ hrun hended ?_ ⟨⟨_, rfl⟩, hW, hsame.mono (by decide) (by decide)⟩⟩
      show Q0 Z p1 p2 p3 w1 w2 w3 w4 w5 h0 n0 _ T8.heap _
      rw [e8]
      exact ⟨rfl, N8⟩
    subst hs
    show own_Go p e below K (T6.setTop (mkF m 39 #[.val (.int p1), .val (.int p2), .val (.int p3), .val (.int (1 : Int32)), .val (.ref w2), .val (.int (1 : Int32)), .unset, .unset, .unset, .unset, .unset] [(.int (2 : Int32))]))
    refine own_st (fun t k => XS.istore X6.here hx rfl (hb hby at_39) rfl (l' := #[.val (.int p1), .val (.int p2), .val (.int p3), .val (.int (1 : Int32)), .val (.ref w2), .val (.int (1 : Int32)), .val (.int (2 : Int32)), .unset, .unset, .unset, .unset]) rfl k) ?_
    show own_Go p e below K (T6.setTop (mkF m 41 #[.val (.int p1), .val (.int p2), .val (.int p3), .val (.int (1 : Int32)), .val (.ref w2), .val (.int (1 : Int32)), .val (.int (2 : Int32)), .unset, .unset, .unset, .unset] []))
    refine own_st (fun t k => XS.iload X6.here hx rfl (hb hby at_41) rfl k) ?_
    show own_Go p e below K (T6.setTop (mkF m 43 #[.val (.int p1), .val (.int p2), .val (.int p3), .val (.int (1 : Int32)), .val (.ref w2), .val (.int (1 : Int32)), .val (.int (2 : Int32)), .unset, .unset, .unset, .unset] [(.int (2 : Int32))]))
    refine own_st (fun t k => XS.iconst X6.here hx rfl (hb hby at_43) k) ?_
    show own_Go p e below K (T6.setTop (mkF m 44 #[.val (.int p1), .val (.int p2), .val (.int p3), .val (.int (1 : Int32)), .val (.ref w2), .val (.int (1 : Int32)), .val (.int (2 : Int32)), .unset, .unset, .unset, .unset] [(.int (1 : Int32)), (.int (2 : Int32))]))
    refine own_st (fun t k => XS.icmpYes X6.here hx rfl (pc0 := 44) (pc' := 53) rfl (hb hby at_44) rfl (feq (by decide : ¬ ((2 : Int32) = (1 : Int32)))).2 (by decide) (by decide) k) ?_
    show own_Go p e below K (T6.setTop (mkF m 53 #[.val (.int p1), .val (.int p2), .val (.int p3), .val (.int (1 : Int32)), .val (.ref w2), .val (.int (1 : Int32)), .val (.int (2 : Int32)), .unset, .unset, .unset, .unset] []))
    refine own_st (X6.ldcInt hx hown (mvT hZ (hw _ (List.mem_of_getElem? (i := 8) rfl))) (g := (mkF m 53 #[.val (.int p1), .val (.int p2), .val (.int p3), .val (.int (1 : Int32)), .val (.ref w2), .val (.int (1 : Int32)), .val (.int (2 : Int32)), .unset, .unset, .unset, .unset] [])) rfl (hb hby at_53)) ?_
    show own_Go p e below K (T6.setTop (mkF m 55 #[.val (.int p1), .val (.int p2), .val (.int p3), .val (.int (1 : Int32)), .val (.ref w2), .val (.int (1 : Int32)), .val (.int (2 : Int32)), .unset, .unset, .unset, .unset] [(.int (65535 : Int32))]))
    refine own_st (fun t k => XS.istore X6.here hx rfl (hb hby at_55) rfl (l' := #[.val (.int p1), .val (.int p2), .val (.int p3), .val (.int (1 : Int32)), .val (.ref w2), .val (.int (1 : Int32)), .val (.int (2 : Int32)), .val (.int (65535 : Int32)), .unset, .unset, .unset]) rfl k) ?_
    show own_Go p e below K (T6.setTop (mkF m 57 #[.val (.int p1), .val (.int p2), .val (.int p3), .val (.int (1 : Int32)), .val (.ref w2), .val (.int (1 : Int32)), .val (.int (2 : Int32)), .val (.int (65535 : Int32)), .unset, .unset, .unset] []))
    refine own_st (fun t k => XS.iload X6.here hx rfl (hb hby at_57) rfl k) ?_
    show own_Go p e below K (T6.setTop (mkF m 59 #[.val (.int p1), .val (.int p2), .val (.int p3), .val (.int (1 : Int32)), .val (.ref w2), .val (.int (1 : Int32)), .val (.int (2 : Int32)), .val (.int (65535 : Int32)), .unset, .unset, .unset] [(.int (2 : Int32))]))
    refine own_st (fun t k => XS.iconst X6.here hx rfl (hb hby at_59) k) ?_
    show own_Go p e below K (T6.setTop (mkF m 60 #[.val (.int p1), .val (.int p2), .val (.int p3), .val (.int (1 : Int32)), .val (.ref w2), .val (.int (1 : Int32)), .val (.int (2 : Int32)), .val (.int (65535 : Int32)), .unset, .unset, .unset] [(.int (1 : Int32)), (.int (2 : Int32))]))
    refine own_st (fun t k => XS.icmpYes X6.here hx rfl (pc0 := 60) (pc' := 69) rfl (hb hby at_60) rfl (feq (by decide : ¬ ((2 : Int32) = (1 : Int32)))).2 (by decide) (by decide) k) ?_
    show own_Go p e below K (T6.setTop (mkF m 69 #[.val (.int p1), .val (.int p2), .val (.int p3), .val (.int (1 : Int32)), .val (.ref w2), .val (.int (1 : Int32)), .val (.int (2 : Int32)), .val (.int (65535 : Int32)), .unset, .unset, .unset] []))
    refine own_st (X6.ldcInt hx hown (mvT hZ (hw _ (List.mem_of_getElem? (i := 9) rfl))) (g := (mkF m 69 #[.val (.int p1), .val (.int p2), .val (.int p3), .val (.int (1 : Int32)), .val (.ref w2), .val (.int (1 : Int32)), .val (.int (2 : Int32)), .val (.int (65535 : Int32)), .unset, .unset, .unset] [])) rfl (hb hby at_69)) ?_
    show own_Go p e below K (T6.setTop (mkF m 71 #[.val (.int p1), .val (.int p2), .val (.int p3), .val (.int (1 : Int32)), .val (.ref w2), .val (.int (1 : Int32)), .val (.int (2 : Int32)), .val (.int (65535 : Int32)), .unset, .unset, .unset] [(.int (32768 : Int32))]))
    refine own_st (fun t k => XS.istore X6.here hx rfl (hb hby at_71) rfl (l' := #[.val (.int p1), .val (.int p2), .val (.int p3), .val (.int (1 : Int32)), .val (.ref w2), .val (.int (1 : Int32)), .val (.int (2 : Int32)), .val (.int (65535 : Int32)), .val (.int (32768 : Int32)), .unset, .unset]) rfl k) ?_
    show own_Go p e below K (T6.setTop (mkF m 73 #[.val (.int p1), .val (.int p2), .val (.int p3), .val (.int (1 : Int32)), .val (.ref w2), .val (.int (1 : Int32)), .val (.int (2 : Int32)), .val (.int (65535 : Int32)), .val (.int (32768 : Int32)), .unset, .unset] []))
    refine own_st (fun t k => XS.iloadN X6.here hx rfl (hb hby at_73) rfl k) ?_
    show own_Go p e below K (T6.setTop (mkF m 74 #[.val (.int p1), .val (.int p2), .val (.int p3), .val (.int (1 : Int32)), .val (.ref w2), .val (.int (1 : Int32)), .val (.int (2 : Int32)), .val (.int (65535 : Int32)), .val (.int (32768 : Int32)), .unset, .unset] [(.int p3)]))
    refine own_st (fun t k => XS.iload X6.here hx rfl (hb hby at_74) rfl k) ?_
    show own_Go p e below K (T6.setTop (mkF m 76 #[.val (.int p1), .val (.int p2), .val (.int p3), .val (.int (1 : Int32)), .val (.ref w2), .val (.int (1 : Int32)), .val (.int (2 : Int32)), .val (.int (65535 : Int32)), .val (.int (32768 : Int32)), .unset, .unset] [(.int (65535 : Int32)), (.int p3)]))
    refine own_st (fun t k => XS.iand X6.here hx rfl (hb hby at_76) rfl k) ?_
    show own_Go p e below K (T6.setTop (mkF m 77 #[.val (.int p1), .val (.int p2), .val (.int p3), .val (.int (1 : Int32)), .val (.ref w2), .val (.int (1 : Int32)), .val (.int (2 : Int32)), .val (.int (65535 : Int32)), .val (.int (32768 : Int32)), .unset, .unset] [(.int (p3 &&& (65535 : Int32)))]))
    generalize hru : (p3 &&& (65535 : Int32)) = ru
    show own_Go p e below K (T6.setTop (mkF m 77 #[.val (.int p1), .val (.int p2), .val (.int p3), .val (.int (1 : Int32)), .val (.ref w2), .val (.int (1 : Int32)), .val (.int (2 : Int32)), .val (.int (65535 : Int32)), .val (.int (32768 : Int32)), .unset, .unset] [(.int ru)]))
    refine own_st (fun t k => XS.istore X6.here hx rfl (hb hby at_77) rfl (l' := #[.val (.int p1), .val (.int p2), .val (.int p3), .val (.int (1 : Int32)), .val (.ref w2), .val (.int (1 : Int32)), .val (.int (2 : Int32)), .val (.int (65535 : Int32)), .val (.int (32768 : Int32)), .val (.int ru), .unset]) rfl k) ?_
    show own_Go p e below K (T6.setTop (mkF m 79 #[.val (.int p1), .val (.int p2), .val (.int p3), .val (.int (1 : Int32)), .val (.ref w2), .val (.int (1 : Int32)), .val (.int (2 : Int32)), .val (.int (65535 : Int32)), .val (.int (32768 : Int32)), .val (.int ru), .unset] []))
    refine own_st (fun t k => XS.iload X6.here hx rfl (hb hby at_79) rfl k) ?_
    show own_Go p e below K (T6.setTop (mkF m 81 #[.val (.int p1), .val (.int p2), .val (.int p3), .val (.int (1 : Int32)), .val (.ref w2), .val (.int (1 : Int32)), .val (.int (2 : Int32)), .val (.int (65535 : Int32)), .val (.int (32768 : Int32)), .val (.int ru), .unset] [(.int (1 : Int32))]))
    refine own_st (fun t k => XS.ifNo X6.here hx rfl (hb hby at_81) rfl ((if0 _ _).trans (feq (by decide : ¬ ((1 : Int32) = (0 : Int32)))).1) k) ?_
    show own_Go p e below K (T6.setTop (mkF m 84 #[.val (.int p1), .val (.int p2), .val (.int p3), .val (.int (1 : Int32)), .val (.ref w2), .val (.int (1 : Int32)), .val (.int (2 : Int32)), .val (.int (65535 : Int32)), .val (.int (32768 : Int32)), .val (.int ru), .unset] []))
    refine own_st (fun t k => XS.iload X6.here hx rfl (hb hby at_84) rfl k) ?_
    show own_Go p e below K (T6.setTop (mkF m 86 #[.val (.int p1), .val (.int p2), .val (.int p3), .val (.int (1 : Int32)), .val (.ref w2), .val (.int (1 : Int32)), .val (.int (2 : Int32)), .val (.int (65535 : Int32)), .val (.int (32768 : Int32)), .val (.int ru), .unset] [(.int ru)]))
    refine own_st (fun t k => XS.iload X6.here hx rfl (hb hby at_86) rfl k) ?_
    show own_Go p e below K (T6.setTop (mkF m 88 #[.val (.int p1), .val (.int p2), .val (.int p3), .val (.int (1 : Int32)), .val (.ref w2), .val (.int (1 : Int32)), .val (.int (2 : Int32)), .val (.int (65535 : Int32)), .val (.int (32768 : Int32)), .val (.int ru), .unset] [(.int (32768 : Int32)), (.int ru)]))
    by_cases hc88 : ru < (32768 : Int32)
    · refine own_st (fun t k => XS.icmpYes X6.here hx rfl (pc0 := 88) (pc' := 103) rfl (hb hby at_88) rfl (tlt hc88).1 (by decide) (by decide) k) ?_
      show own_Go p e below K (T6.setTop (mkF m 103 #[.val (.int p1), .val (.int p2), .val (.int p3), .val (.int (1 : Int32)), .val (.ref w2), .val (.int (1 : Int32)), .val (.int (2 : Int32)), .val (.int (65535 : Int32)), .val (.int (32768 : Int32)), .val (.int ru), .unset] []))
      refine own_st (fun t k => XS.iload X6.here hx rfl (hb hby at_103) rfl k) ?_
      show own_Go p e below K (T6.setTop (mkF m 105 #[.val (.int p1), .val (.int p2), .val (.int p3), .val (.int (1 : Int32)), .val (.ref w2), .val (.int (1 : Int32)), .val (.int (2 : Int32)), .val (.int (65535 : Int32)), .val (.int (32768 : Int32)), .val (.int ru), .unset] [(.int ru)]))
      refine own_st (fun t k => XS.istore X6.here hx rfl (hb hby at_105) rfl (l' := #[.val (.int p1), .val (.int p2), .val (.int p3), .val (.int (1 : Int32)), .val (.ref w2), .val (.int (1 : Int32)), .val (.int (2 : Int32)), .val (.int (65535 : Int32)), .val (.int (32768 : Int32)), .val (.int ru), .val (.int ru)]) rfl k) ?_
      show own_Go p e below K (T6.setTop (mkF m 107 #[.val (.int p1), .val (.int p2), .val (.int p3), .val (.int (1 : Int32)), .val (.ref w2), .val (.int (1 : Int32)), .val (.int (2 : Int32)), .val (.int (65535 : Int32)), .val (.int (32768 : Int32)), .val (.int ru), .val (.int ru)] []))
      refine own_st (fun t k => XS.aload X6.here hx rfl (hb hby at_107) rfl rfl k) ?_
      show own_Go p e below K (T6.setTop (mkF m 109 #[.val (.int p1), .val (.int p2), .val (.int p3), .val (.int (1 : Int32)), .val (.ref w2), .val (.int (1 : Int32)), .val (.int (2 : Int32)), .val (.int (65535 : Int32)), .val (.int (32768 : Int32)), .val (.int ru), .val (.int ru)] [(.ref w2)]))
      refine own_st (fun t k => XS.iload X6.here hx rfl (hb hby at_109) rfl k) ?_
      show own_Go p e below K (T6.setTop (mkF m 111 #[.val (.int p1), .val (.int p2), .val (.int p3), .val (.int (1 : Int32)), .val (.ref w2), .val (.int (1 : Int32)), .val (.int (2 : Int32)), .val (.int (65535 : Int32)), .val (.int (32768 : Int32)), .val (.int ru), .val (.int ru)] [(.int ru), (.ref w2)]))
      refine own_st (fun t k => XS.iload X6.here hx rfl (hb hby at_111) rfl k) ?_
      show own_Go p e below K (T6.setTop (mkF m 113 #[.val (.int p1), .val (.int p2), .val (.int p3), .val (.int (1 : Int32)), .val (.ref w2), .val (.int (1 : Int32)), .val (.int (2 : Int32)), .val (.int (65535 : Int32)), .val (.int (32768 : Int32)), .val (.int ru), .val (.int ru)] [(.int (2 : Int32)), (.int ru), (.ref w2)]))
      obtain ⟨cq9, kq9, qv9a, qv9b, qv9c⟩ := isOf hZ e6 P6
      obtain ⟨_, _, ⟨T9, L9, k9, n9⟩, -, X9, ⟨Lc9, hQ9, l9, y9, z9⟩, st9⟩ := X6.virtualBack hx (y := (⟨"com/example/micrologue/micrologue/OperandKind", "value", "(II)I"⟩ : MethodName)) (z := (⟨"com/example/micrologue/micrologue/OperandKind", "value", "(II)I"⟩ : MethodName)) hown (mvT hZ (hw _ (List.mem_of_getElem? (i := 10) rfl))) (mvT hZ (hw _ (List.mem_of_getElem? (i := 11) rfl))) (notFace_of_selects (args := #[]) (mvT hZ (hw _ (List.mem_of_getElem? (i := 13) rfl)))) (mvT hZ (hw _ (List.mem_of_getElem? (i := 13) rfl))) (mvT hZ (hw _ (List.mem_of_getElem? (i := 12) rfl))) (by decide) (backOf (W := 0) (rm2 l Z a0 hw [] w2 ru (2 : Int32) ((1 : Int32)) h0 n0 Z0 P11) hZ (hw _ (List.mem_of_getElem? (i := 14) rfl)) (hw _ (List.mem_of_getElem? (i := 6) rfl)) (by decide) (by decide)) qv9a qv9c (g := (mkF m 113 #[.val (.int p1), .val (.int p2), .val (.int p3), .val (.int (1 : Int32)), .val (.ref w2), .val (.int (1 : Int32)), .val (.int (2 : Int32)), .val (.int (65535 : Int32)), .val (.int (32768 : Int32)), .val (.int ru), .val (.int ru)] [(.int (2 : Int32)), (.int ru), (.ref w2)])) rfl (by rw [hml]; rfl) (Steps.refl _) (argsL := [(.int ru), (.int (2 : Int32))]) (rest := []) (lenOf pd_0_1 rfl) rfl (by show 2 * 0 + _ ≤ _; exact Nat.le_of_eq rfl) (hb hby at_113) (fun _ _ => ⟨rfl, e6, (by decide : 0 + 0 ≤ _), (by decide : 0 + 0 ≤ _)⟩)
      dsimp only [Pt.U, Pt.locs, Pt.cells, Pt.slots] at X9 l9 y9 z9 st9 hQ9
      subst l9 y9 z9
      obtain ⟨r9, rfl, hr9, N9q, e9⟩ := hQ9
      have N9 := Fr.app N6 N9q
      refine own_tr st9 ?_
      show own_Go p e below K (T9.setTop (mkF m 116 #[.val (.int p1), .val (.int p2), .val (.int p3), .val (.int (1 : Int32)), .val (.ref w2), .val (.int (1 : Int32)), .val (.int (2 : Int32)), .val (.int (65535 : Int32)), .val (.int (32768 : Int32)), .val (.int ru), .val (.int ru)] [(.int r9)]))
      refine own_st (fun t k => XS.iload X9.here hx rfl (hb hby at_116) rfl k) ?_
      show own_Go p e below K (T9.setTop (mkF m 118 #[.val (.int p1), .val (.int p2), .val (.int p3), .val (.int (1 : Int32)), .val (.ref w2), .val (.int (1 : Int32)), .val (.int (2 : Int32)), .val (.int (65535 : Int32)), .val (.int (32768 : Int32)), .val (.int ru), .val (.int ru)] [(.int ru), (.int r9)]))
      refine own_st (fun t k => XS.icmpNo X9.here hx rfl (hb hby at_118) rfl (teq (hr9.trans (own_a2 hru hc88) : r9 = ru)).2 k) ?_
      show own_Go p e below K (T9.setTop (mkF m 121 #[.val (.int p1), .val (.int p2), .val (.int p3), .val (.int (1 : Int32)), .val (.ref w2), .val (.int (1 : Int32)), .val (.int (2 : Int32)), .val (.int (65535 : Int32)), .val (.int (32768 : Int32)), .val (.int ru), .val (.int ru)] []))
      refine own_st (fun t k => XS.iconst X9.here hx rfl (hb hby at_121) k) ?_
      show own_Go p e below K (T9.setTop (mkF m 122 #[.val (.int p1), .val (.int p2), .val (.int p3), .val (.int (1 : Int32)), .val (.ref w2), .val (.int (1 : Int32)), .val (.int (2 : Int32)), .val (.int (65535 : Int32)), .val (.int (32768 : Int32)), .val (.int ru), .val (.int ru)] [(.int (1 : Int32))]))
      refine own_st (fun t k => XS.goto X9.here hx rfl (pc0 := 122) (pc' := 126) rfl (hb hby at_122) (by decide) (by decide) k) ?_
      show own_Go p e below K (T9.setTop (mkF m 126 #[.val (.int p1), .val (.int p2), .val (.int p3), .val (.int (1 : Int32)), .val (.ref w2), .val (.int (1 : Int32)), .val (.int (2 : Int32)), .val (.int (65535 : Int32)), .val (.int (32768 : Int32)), .val (.int ru), .val (.int ru)] [(.int (1 : Int32))]))
      obtain ⟨fs, hr, hrun, hended, hW, hsame⟩ := X9.leave (v := some (.int (nar .boolean (1 : Int32)))) (fun h => by rw [Bd.returns] at h; cases h)
      refine ⟨_, retN X9 hx (t := .boolean) Bd.returns (by simp) (hb hby at_126) hr, fin _ _ _ hrun hended ?_ ⟨⟨_, rfl⟩, hW, hsame.mono (by decide) (by decide)⟩⟩
      show Q0 Z p1 p2 p3 w1 w2 w3 w4 w5 h0 n0 _ T9.heap _
      rw [e9]
      exact ⟨rfl, N9⟩
    refine own_st (fun t k => XS.icmpNo X6.here hx rfl (hb hby at_88) rfl (flt hc88).1 k) ?_
    show own_Go p e below K (T6.setTop (mkF m 91 #[.val (.int p1), .val (.int p2), .val (.int p3), .val (.int (1 : Int32)), .val (.ref w2), .val (.int (1 : Int32)), .val (.int (2 : Int32)), .val (.int (65535 : Int32)), .val (.int (32768 : Int32)), .val (.int ru), .unset] []))
    refine own_st (fun t k => XS.iload X6.here hx rfl (hb hby at_91) rfl k) ?_
    show own_Go p e below K (T6.setTop (mkF m 93 #[.val (.int p1), .val (.int p2), .val (.int p3), .val (.int (1 : Int32)), .val (.ref w2), .val (.int (1 : Int32)), .val (.int (2 : Int32)), .val (.int (65535 : Int32)), .val (.int (32768 : Int32)), .val (.int ru), .unset] [(.int ru)]))
    refine own_st (fun t k => XS.iload X6.here hx rfl (hb hby at_93) rfl k) ?_
    show own_Go p e below K (T6.setTop (mkF m 95 #[.val (.int p1), .val (.int p2), .val (.int p3), .val (.int (1 : Int32)), .val (.ref w2), .val (.int (1 : Int32)), .val (.int (2 : Int32)), .val (.int (65535 : Int32)), .val (.int (32768 : Int32)), .val (.int ru), .unset] [(.int (65535 : Int32)), (.int ru)]))
    refine own_st (fun t k => XS.iconst X6.here hx rfl (hb hby at_95) k) ?_
    show own_Go p e below K (T6.setTop (mkF m 96 #[.val (.int p1), .val (.int p2), .val (.int p3), .val (.int (1 : Int32)), .val (.ref w2), .val (.int (1 : Int32)), .val (.int (2 : Int32)), .val (.int (65535 : Int32)), .val (.int (32768 : Int32)), .val (.int ru), .unset] [(.int (1 : Int32)), (.int (65535 : Int32)), (.int ru)]))
    refine own_st (fun t k => XS.iadd X6.here hx rfl (hb hby at_96) rfl k) ?_
    show own_Go p e below K (T6.setTop (mkF m 97 #[.val (.int p1), .val (.int p2), .val (.int p3), .val (.int (1 : Int32)), .val (.ref w2), .val (.int (1 : Int32)), .val (.int (2 : Int32)), .val (.int (65535 : Int32)), .val (.int (32768 : Int32)), .val (.int ru), .unset] [(.int ((65535 : Int32) + (1 : Int32))), (.int ru)]))
    rw [show ((65535 : Int32) + (1 : Int32)) = (65536 : Int32) from by decide]
    show own_Go p e below K (T6.setTop (mkF m 97 #[.val (.int p1), .val (.int p2), .val (.int p3), .val (.int (1 : Int32)), .val (.ref w2), .val (.int (1 : Int32)), .val (.int (2 : Int32)), .val (.int (65535 : Int32)), .val (.int (32768 : Int32)), .val (.int ru), .unset] [(.int (65536 : Int32)), (.int ru)]))
    refine own_st (fun t k => XS.isub X6.here hx rfl (hb hby at_97) rfl k) ?_
    show own_Go p e below K (T6.setTop (mkF m 98 #[.val (.int p1), .val (.int p2), .val (.int p3), .val (.int (1 : Int32)), .val (.ref w2), .val (.int (1 : Int32)), .val (.int (2 : Int32)), .val (.int (65535 : Int32)), .val (.int (32768 : Int32)), .val (.int ru), .unset] [(.int (ru - (65536 : Int32)))]))
    refine own_st (fun t k => XS.istore X6.here hx rfl (hb hby at_98) rfl (l' := #[.val (.int p1), .val (.int p2), .val (.int p3), .val (.int (1 : Int32)), .val (.ref w2), .val (.int (1 : Int32)), .val (.int (2 : Int32)), .val (.int (65535 : Int32)), .val (.int (32768 : Int32)), .val (.int ru), .val (.int (ru - (65536 : Int32)))]) rfl k) ?_
    show own_Go p e below K (T6.setTop (mkF m 100 #[.val (.int p1), .val (.int p2), .val (.int p3), .val (.int (1 : Int32)), .val (.ref w2), .val (.int (1 : Int32)), .val (.int (2 : Int32)), .val (.int (65535 : Int32)), .val (.int (32768 : Int32)), .val (.int ru), .val (.int (ru - (65536 : Int32)))] []))
    refine own_st (fun t k => XS.goto X6.here hx rfl (pc0 := 100) (pc' := 107) rfl (hb hby at_100) (by decide) (by decide) k) ?_
    show own_Go p e below K (T6.setTop (mkF m 107 #[.val (.int p1), .val (.int p2), .val (.int p3), .val (.int (1 : Int32)), .val (.ref w2), .val (.int (1 : Int32)), .val (.int (2 : Int32)), .val (.int (65535 : Int32)), .val (.int (32768 : Int32)), .val (.int ru), .val (.int (ru - (65536 : Int32)))] []))
    refine own_st (fun t k => XS.aload X6.here hx rfl (hb hby at_107) rfl rfl k) ?_
    show own_Go p e below K (T6.setTop (mkF m 109 #[.val (.int p1), .val (.int p2), .val (.int p3), .val (.int (1 : Int32)), .val (.ref w2), .val (.int (1 : Int32)), .val (.int (2 : Int32)), .val (.int (65535 : Int32)), .val (.int (32768 : Int32)), .val (.int ru), .val (.int (ru - (65536 : Int32)))] [(.ref w2)]))
    refine own_st (fun t k => XS.iload X6.here hx rfl (hb hby at_109) rfl k) ?_
    show own_Go p e below K (T6.setTop (mkF m 111 #[.val (.int p1), .val (.int p2), .val (.int p3), .val (.int (1 : Int32)), .val (.ref w2), .val (.int (1 : Int32)), .val (.int (2 : Int32)), .val (.int (65535 : Int32)), .val (.int (32768 : Int32)), .val (.int ru), .val (.int (ru - (65536 : Int32)))] [(.int ru), (.ref w2)]))
    refine own_st (fun t k => XS.iload X6.here hx rfl (hb hby at_111) rfl k) ?_
    show own_Go p e below K (T6.setTop (mkF m 113 #[.val (.int p1), .val (.int p2), .val (.int p3), .val (.int (1 : Int32)), .val (.ref w2), .val (.int (1 : Int32)), .val (.int (2 : Int32)), .val (.int (65535 : Int32)), .val (.int (32768 : Int32)), .val (.int ru), .val (.int (ru - (65536 : Int32)))] [(.int (2 : Int32)), (.int ru), (.ref w2)]))
    obtain ⟨cq10, kq10, qv10a, qv10b, qv10c⟩ := isOf hZ e6 P6
    obtain ⟨_, _, ⟨T10, L10, k10, n10⟩, -, X10, ⟨Lc10, hQ10, l10, y10, z10⟩, st10⟩ := X6.virtualBack hx (y := (⟨"com/example/micrologue/micrologue/OperandKind", "value", "(II)I"⟩ : MethodName)) (z := (⟨"com/example/micrologue/micrologue/OperandKind", "value", "(II)I"⟩ : MethodName)) hown (mvT hZ (hw _ (List.mem_of_getElem? (i := 10) rfl))) (mvT hZ (hw _ (List.mem_of_getElem? (i := 11) rfl))) (notFace_of_selects (args := #[]) (mvT hZ (hw _ (List.mem_of_getElem? (i := 13) rfl)))) (mvT hZ (hw _ (List.mem_of_getElem? (i := 13) rfl))) (mvT hZ (hw _ (List.mem_of_getElem? (i := 12) rfl))) (by decide) (backOf (W := 0) (rm2 l Z a0 hw [] w2 ru (2 : Int32) ((1 : Int32)) h0 n0 Z0 P11) hZ (hw _ (List.mem_of_getElem? (i := 14) rfl)) (hw _ (List.mem_of_getElem? (i := 6) rfl)) (by decide) (by decide)) qv10a qv10c (g := (mkF m 113 #[.val (.int p1), .val (.int p2), .val (.int p3), .val (.int (1 : Int32)), .val (.ref w2), .val (.int (1 : Int32)), .val (.int (2 : Int32)), .val (.int (65535 : Int32)), .val (.int (32768 : Int32)), .val (.int ru), .val (.int (ru - (65536 : Int32)))] [(.int (2 : Int32)), (.int ru), (.ref w2)])) rfl (by rw [hml]; rfl) (Steps.refl _) (argsL := [(.int ru), (.int (2 : Int32))]) (rest := []) (lenOf pd_0_1 rfl) rfl (by show 2 * 0 + _ ≤ _; exact Nat.le_of_eq rfl) (hb hby at_113) (fun _ _ => ⟨rfl, e6, (by decide : 0 + 0 ≤ _), (by decide : 0 + 0 ≤ _)⟩)
    dsimp only [Pt.U, Pt.locs, Pt.cells, Pt.slots] at X10 l10 y10 z10 st10 hQ10
    subst l10 y10 z10
    obtain ⟨r10, rfl, hr10, N10q, e10⟩ := hQ10
    have N10 := Fr.app N6 N10q
    refine own_tr st10 ?_
    show own_Go p e below K (T10.setTop (mkF m 116 #[.val (.int p1), .val (.int p2), .val (.int p3), .val (.int (1 : Int32)), .val (.ref w2), .val (.int (1 : Int32)), .val (.int (2 : Int32)), .val (.int (65535 : Int32)), .val (.int (32768 : Int32)), .val (.int ru), .val (.int (ru - (65536 : Int32)))] [(.int r10)]))
    refine own_st (fun t k => XS.iload X10.here hx rfl (hb hby at_116) rfl k) ?_
    show own_Go p e below K (T10.setTop (mkF m 118 #[.val (.int p1), .val (.int p2), .val (.int p3), .val (.int (1 : Int32)), .val (.ref w2), .val (.int (1 : Int32)), .val (.int (2 : Int32)), .val (.int (65535 : Int32)), .val (.int (32768 : Int32)), .val (.int ru), .val (.int (ru - (65536 : Int32)))] [(.int (ru - (65536 : Int32))), (.int r10)]))
    refine own_st (fun t k => XS.icmpNo X10.here hx rfl (hb hby at_118) rfl (teq (hr10.trans (own_b2 hru hc88) : r10 = (ru - (65536 : Int32)))).2 k) ?_
    show own_Go p e below K (T10.setTop (mkF m 121 #[.val (.int p1), .val (.int p2), .val (.int p3), .val (.int (1 : Int32)), .val (.ref w2), .val (.int (1 : Int32)), .val (.int (2 : Int32)), .val (.int (65535 : Int32)), .val (.int (32768 : Int32)), .val (.int ru), .val (.int (ru - (65536 : Int32)))] []))
    refine own_st (fun t k => XS.iconst X10.here hx rfl (hb hby at_121) k) ?_
    show own_Go p e below K (T10.setTop (mkF m 122 #[.val (.int p1), .val (.int p2), .val (.int p3), .val (.int (1 : Int32)), .val (.ref w2), .val (.int (1 : Int32)), .val (.int (2 : Int32)), .val (.int (65535 : Int32)), .val (.int (32768 : Int32)), .val (.int ru), .val (.int (ru - (65536 : Int32)))] [(.int (1 : Int32))]))
    refine own_st (fun t k => XS.goto X10.here hx rfl (pc0 := 122) (pc' := 126) rfl (hb hby at_122) (by decide) (by decide) k) ?_
    show own_Go p e below K (T10.setTop (mkF m 126 #[.val (.int p1), .val (.int p2), .val (.int p3), .val (.int (1 : Int32)), .val (.ref w2), .val (.int (1 : Int32)), .val (.int (2 : Int32)), .val (.int (65535 : Int32)), .val (.int (32768 : Int32)), .val (.int ru), .val (.int (ru - (65536 : Int32)))] [(.int (1 : Int32))]))
    obtain ⟨fs, hr, hrun, hended, hW, hsame⟩ := X10.leave (v := some (.int (nar .boolean (1 : Int32)))) (fun h => by rw [Bd.returns] at h; cases h)
    refine ⟨_, retN X10 hx (t := .boolean) Bd.returns (by simp) (hb hby at_126) hr, fin _ _ _ hrun hended ?_ ⟨⟨_, rfl⟩, hW, hsame.mono (by decide) (by decide)⟩⟩
    show Q0 Z p1 p2 p3 w1 w2 w3 w4 w5 h0 n0 _ T10.heap _
    rw [e10]
    exact ⟨rfl, N10⟩
  · subst hs
    show own_Go p e below K (s₁.setTop (mkF m 6 #[.val (.int p1), .val (.int p2), .val (.int p3), .unset, .unset, .unset, .unset, .unset, .unset, .unset, .unset] [(.int (2 : Int32))]))
    refine own_st (fun t k => XS.istoreN X0.here hx rfl (hb hby at_6) rfl (l' := #[.val (.int p1), .val (.int p2), .val (.int p3), .val (.int (2 : Int32)), .unset, .unset, .unset, .unset, .unset, .unset, .unset]) rfl k) ?_
    show own_Go p e below K (s₁.setTop (mkF m 7 #[.val (.int p1), .val (.int p2), .val (.int p3), .val (.int (2 : Int32)), .unset, .unset, .unset, .unset, .unset, .unset, .unset] []))
    refine own_st (fun t k => XS.iloadN X0.here hx rfl (hb hby at_7) rfl k) ?_
    show own_Go p e below K (s₁.setTop (mkF m 8 #[.val (.int p1), .val (.int p2), .val (.int p3), .val (.int (2 : Int32)), .unset, .unset, .unset, .unset, .unset, .unset, .unset] [(.int (2 : Int32))]))
    obtain ⟨_, _, ⟨T11, L11, k11, n11⟩, -, X11, ⟨Lc11, hQ11, l11, y11, z11⟩, st11⟩ := Jvm.LawKit.callS X0 hx (y := (⟨"com/example/micrologue/micrologue/OperandKindValuePinLaw", "kindOf", "(I)Lcom/example/micrologue/micrologue/OperandKind;"⟩ : MethodName)) hown (mvT hZ (hw _ (List.mem_of_getElem? (i := 1) rfl))) (mvT hZ (hw _ (List.mem_of_getElem? (i := 2) rfl))) (mvT hZ (hw _ (List.mem_of_getElem? (i := 3) rfl))) (mvT hZ (hw _ (List.mem_of_getElem? (i := 4) rfl))) (by decide) (backOf (W := 0) (rm1 l Z a0 hw [] (2 : Int32) (w1) (w2) (w3) (w4) (w5) h0 n0 Z0 P0 P1 P2 P3 P4) hZ (hw _ (List.mem_of_getElem? (i := 4) rfl)) (hw _ (List.mem_of_getElem? (i := 3) rfl)) (by decide) (by decide)) (g := (mkF m 8 #[.val (.int p1), .val (.int p2), .val (.int p3), .val (.int (2 : Int32)), .unset, .unset, .unset, .unset, .unset, .unset, .unset] [(.int (2 : Int32))])) rfl (by rw [hml]; rfl) (argsL := [(.int (2 : Int32))]) (rest := []) (lenOf pd_0_0 rfl) rfl (by show 2 * 0 + _ ≤ _; exact Nat.le_of_eq rfl) (hb hby at_8) (fun _ _ => ⟨rfl, e0, (by decide : 0 + 0 ≤ _), (by decide : 0 + 0 ≤ _)⟩)
    dsimp only [Pt.U, Pt.locs, Pt.cells, Pt.slots] at X11 l11 y11 z11 st11 hQ11
    subst l11 y11 z11
    obtain ⟨r11, rfl, hr11, N11q, e11⟩ := hQ11
    have N11 := Fr.app N0 N11q
    refine own_st st11 ?_
    show own_Go p e below K (T11.setTop (mkF m 11 #[.val (.int p1), .val (.int p2), .val (.int p3), .val (.int (2 : Int32)), .unset, .unset, .unset, .unset, .unset, .unset, .unset] [(.ref r11)]))
    have hs := ((hr11.trans (own_k2 w1 w2 w3 w4 w5)).symm : w3 = r11)
    subst hs
    show own_Go p e below K (T11.setTop (mkF m 11 #[.val (.int p1), .val (.int p2), .val (.int p3), .val (.int (2 : Int32)), .unset, .unset, .unset, .unset, .unset, .unset, .unset] [(.ref w3)]))
    refine own_st (fun t k => XS.astore X11.here hx rfl (hb hby at_11) rfl rfl (l' := #[.val (.int p1), .val (.int p2), .val (.int p3), .val (.int (2 : Int32)), .val (.ref w3), .unset, .unset, .unset, .unset, .unset, .unset]) rfl k) ?_
    show own_Go p e below K (T11.setTop (mkF m 13 #[.val (.int p1), .val (.int p2), .val (.int p3), .val (.int (2 : Int32)), .val (.ref w3), .unset, .unset, .unset, .unset, .unset, .unset] []))
    refine own_st (fun t k => XS.iloadN X11.here hx rfl (hb hby at_13) rfl k) ?_
    show own_Go p e below K (T11.setTop (mkF m 14 #[.val (.int p1), .val (.int p2), .val (.int p3), .val (.int (2 : Int32)), .val (.ref w3), .unset, .unset, .unset, .unset, .unset, .unset] [(.int (2 : Int32))]))
    refine own_st (fun t k => XS.ifNo X11.here hx rfl (hb hby at_14) rfl ((if0 _ _).trans (feq (by decide : ¬ ((2 : Int32) = (0 : Int32)))).1) k) ?_
    show own_Go p e below K (T11.setTop (mkF m 17 #[.val (.int p1), .val (.int p2), .val (.int p3), .val (.int (2 : Int32)), .val (.ref w3), .unset, .unset, .unset, .unset, .unset, .unset] []))
    refine own_st (fun t k => XS.iloadN X11.here hx rfl (hb hby at_17) rfl k) ?_
    show own_Go p e below K (T11.setTop (mkF m 18 #[.val (.int p1), .val (.int p2), .val (.int p3), .val (.int (2 : Int32)), .val (.ref w3), .unset, .unset, .unset, .unset, .unset, .unset] [(.int (2 : Int32))]))
    refine own_st (fun t k => XS.iconst X11.here hx rfl (hb hby at_18) k) ?_
    show own_Go p e below K (T11.setTop (mkF m 19 #[.val (.int p1), .val (.int p2), .val (.int p3), .val (.int (2 : Int32)), .val (.ref w3), .unset, .unset, .unset, .unset, .unset, .unset] [(.int (1 : Int32)), (.int (2 : Int32))]))
    refine own_st (fun t k => XS.icmpNo X11.here hx rfl (hb hby at_19) rfl (feq (by decide : ¬ ((2 : Int32) = (1 : Int32)))).1 k) ?_
    show own_Go p e below K (T11.setTop (mkF m 22 #[.val (.int p1), .val (.int p2), .val (.int p3), .val (.int (2 : Int32)), .val (.ref w3), .unset, .unset, .unset, .unset, .unset, .unset] []))
    refine own_st (fun t k => XS.iloadN X11.here hx rfl (hb hby at_22) rfl k) ?_
    show own_Go p e below K (T11.setTop (mkF m 23 #[.val (.int p1), .val (.int p2), .val (.int p3), .val (.int (2 : Int32)), .val (.ref w3), .unset, .unset, .unset, .unset, .unset, .unset] [(.int (2 : Int32))]))
    refine own_st (fun t k => XS.iconst X11.here hx rfl (hb hby at_23) k) ?_
    show own_Go p e below K (T11.setTop (mkF m 24 #[.val (.int p1), .val (.int p2), .val (.int p3), .val (.int (2 : Int32)), .val (.ref w3), .unset, .unset, .unset, .unset, .unset, .unset] [(.int (3 : Int32)), (.int (2 : Int32))]))
    refine own_st (fun t k => XS.icmpYes X11.here hx rfl (pc0 := 24) (pc' := 31) rfl (hb hby at_24) rfl (feq (by decide : ¬ ((2 : Int32) = (3 : Int32)))).2 (by decide) (by decide) k) ?_
    show own_Go p e below K (T11.setTop (mkF m 31 #[.val (.int p1), .val (.int p2), .val (.int p3), .val (.int (2 : Int32)), .val (.ref w3), .unset, .unset, .unset, .unset, .unset, .unset] []))
    refine own_st (fun t k => XS.iconst X11.here hx rfl (hb hby at_31) k) ?_
    show own_Go p e below K (T11.setTop (mkF m 32 #[.val (.int p1), .val (.int p2), .val (.int p3), .val (.int (2 : Int32)), .val (.ref w3), .unset, .unset, .unset, .unset, .unset, .unset] [(.int (0 : Int32))]))
    refine own_st (fun t k => XS.istore X11.here hx rfl (hb hby at_32) rfl (l' := #[.val (.int p1), .val (.int p2), .val (.int p3), .val (.int (2 : Int32)), .val (.ref w3), .val (.int (0 : Int32)), .unset, .unset, .unset, .unset, .unset]) rfl k) ?_
    show own_Go p e below K (T11.setTop (mkF m 34 #[.val (.int p1), .val (.int p2), .val (.int p3), .val (.int (2 : Int32)), .val (.ref w3), .val (.int (0 : Int32)), .unset, .unset, .unset, .unset, .unset] []))
    refine own_st (fun t k => XS.iconst X11.here hx rfl (hb hby at_34) k) ?_
    show own_Go p e below K (T11.setTop (mkF m 35 #[.val (.int p1), .val (.int p2), .val (.int p3), .val (.int (2 : Int32)), .val (.ref w3), .val (.int (0 : Int32)), .unset, .unset, .unset, .unset, .unset] [(.int (1 : Int32))]))
    refine own_st (fun t k => XS.iloadN X11.here hx rfl (hb hby at_35) rfl k) ?_
    show own_Go p e below K (T11.setTop (mkF m 36 #[.val (.int p1), .val (.int p2), .val (.int p3), .val (.int (2 : Int32)), .val (.ref w3), .val (.int (0 : Int32)), .unset, .unset, .unset, .unset, .unset] [(.int p2), (.int (1 : Int32))]))
    refine own_st (fun t k => XS.iconst X11.here hx rfl (hb hby at_36) k) ?_
    show own_Go p e below K (T11.setTop (mkF m 37 #[.val (.int p1), .val (.int p2), .val (.int p3), .val (.int (2 : Int32)), .val (.ref w3), .val (.int (0 : Int32)), .unset, .unset, .unset, .unset, .unset] [(.int (1 : Int32)), (.int p2), (.int (1 : Int32))]))
    refine own_st (fun t k => XS.iand X11.here hx rfl (hb hby at_37) rfl k) ?_
    show own_Go p e below K (T11.setTop (mkF m 38 #[.val (.int p1), .val (.int p2), .val (.int p3), .val (.int (2 : Int32)), .val (.ref w3), .val (.int (0 : Int32)), .unset, .unset, .unset, .unset, .unset] [(.int (p2 &&& (1 : Int32))), (.int (1 : Int32))]))
    refine own_st (fun t k => XS.iadd X11.here hx rfl (hb hby at_38) rfl k) ?_
    show own_Go p e below K (T11.setTop (mkF m 39 #[.val (.int p1), .val (.int p2), .val (.int p3), .val (.int (2 : Int32)), .val (.ref w3), .val (.int (0 : Int32)), .unset, .unset, .unset, .unset, .unset] [(.int ((1 : Int32) + (p2 &&& (1 : Int32))))]))
    generalize hnb : ((1 : Int32) + (p2 &&& (1 : Int32))) = nb
    show own_Go p e below K (T11.setTop (mkF m 39 #[.val (.int p1), .val (.int p2), .val (.int p3), .val (.int (2 : Int32)), .val (.ref w3), .val (.int (0 : Int32)), .unset, .unset, .unset, .unset, .unset] [(.int nb)]))
    rcases own_nbb hnb with hs | hs
    · subst hs
      show own_Go p e below K (T11.setTop (mkF m 39 #[.val (.int p1), .val (.int p2), .val (.int p3), .val (.int (2 : Int32)), .val (.ref w3), .val (.int (0 : Int32)), .unset, .unset, .unset, .unset, .unset] [(.int (1 : Int32))]))
      refine own_st (fun t k => XS.istore X11.here hx rfl (hb hby at_39) rfl (l' := #[.val (.int p1), .val (.int p2), .val (.int p3), .val (.int (2 : Int32)), .val (.ref w3), .val (.int (0 : Int32)), .val (.int (1 : Int32)), .unset, .unset, .unset, .unset]) rfl k) ?_
      show own_Go p e below K (T11.setTop (mkF m 41 #[.val (.int p1), .val (.int p2), .val (.int p3), .val (.int (2 : Int32)), .val (.ref w3), .val (.int (0 : Int32)), .val (.int (1 : Int32)), .unset, .unset, .unset, .unset] []))
      refine own_st (fun t k => XS.iload X11.here hx rfl (hb hby at_41) rfl k) ?_
      show own_Go p e below K (T11.setTop (mkF m 43 #[.val (.int p1), .val (.int p2), .val (.int p3), .val (.int (2 : Int32)), .val (.ref w3), .val (.int (0 : Int32)), .val (.int (1 : Int32)), .unset, .unset, .unset, .unset] [(.int (1 : Int32))]))
      refine own_st (fun t k => XS.iconst X11.here hx rfl (hb hby at_43) k) ?_
      show own_Go p e below K (T11.setTop (mkF m 44 #[.val (.int p1), .val (.int p2), .val (.int p3), .val (.int (2 : Int32)), .val (.ref w3), .val (.int (0 : Int32)), .val (.int (1 : Int32)), .unset, .unset, .unset, .unset] [(.int (1 : Int32)), (.int (1 : Int32))]))
      refine own_st (fun t k => XS.icmpNo X11.here hx rfl (hb hby at_44) rfl (teq (by decide : (1 : Int32) = (1 : Int32))).2 k) ?_
      show own_Go p e below K (T11.setTop (mkF m 47 #[.val (.int p1), .val (.int p2), .val (.int p3), .val (.int (2 : Int32)), .val (.ref w3), .val (.int (0 : Int32)), .val (.int (1 : Int32)), .unset, .unset, .unset, .unset] []))
      refine own_st (fun t k => XS.sipush X11.here hx rfl (hb hby at_47) k) ?_
      show own_Go p e below K (T11.setTop (mkF m 50 #[.val (.int p1), .val (.int p2), .val (.int p3), .val (.int (2 : Int32)), .val (.ref w3), .val (.int (0 : Int32)), .val (.int (1 : Int32)), .unset, .unset, .unset, .unset] [(.int (255 : Int32))]))
      refine own_st (fun t k => XS.goto X11.here hx rfl (pc0 := 50) (pc' := 55) rfl (hb hby at_50) (by decide) (by decide) k) ?_
      show own_Go p e below K (T11.setTop (mkF m 55 #[.val (.int p1), .val (.int p2), .val (.int p3), .val (.int (2 : Int32)), .val (.ref w3), .val (.int (0 : Int32)), .val (.int (1 : Int32)), .unset, .unset, .unset, .unset] [(.int (255 : Int32))]))
      refine own_st (fun t k => XS.istore X11.here hx rfl (hb hby at_55) rfl (l' := #[.val (.int p1), .val (.int p2), .val (.int p3), .val (.int (2 : Int32)), .val (.ref w3), .val (.int (0 : Int32)), .val (.int (1 : Int32)), .val (.int (255 : Int32)), .unset, .unset, .unset]) rfl k) ?_
      show own_Go p e below K (T11.setTop (mkF m 57 #[.val (.int p1), .val (.int p2), .val (.int p3), .val (.int (2 : Int32)), .val (.ref w3), .val (.int (0 : Int32)), .val (.int (1 : Int32)), .val (.int (255 : Int32)), .unset, .unset, .unset] []))
      refine own_st (fun t k => XS.iload X11.here hx rfl (hb hby at_57) rfl k) ?_
      show own_Go p e below K (T11.setTop (mkF m 59 #[.val (.int p1), .val (.int p2), .val (.int p3), .val (.int (2 : Int32)), .val (.ref w3), .val (.int (0 : Int32)), .val (.int (1 : Int32)), .val (.int (255 : Int32)), .unset, .unset, .unset] [(.int (1 : Int32))]))
      refine own_st (fun t k => XS.iconst X11.here hx rfl (hb hby at_59) k) ?_
      show own_Go p e below K (T11.setTop (mkF m 60 #[.val (.int p1), .val (.int p2), .val (.int p3), .val (.int (2 : Int32)), .val (.ref w3), .val (.int (0 : Int32)), .val (.int (1 : Int32)), .val (.int (255 : Int32)), .unset, .unset, .unset] [(.int (1 : Int32)), (.int (1 : Int32))]))
      refine own_st (fun t k => XS.icmpNo X11.here hx rfl (hb hby at_60) rfl (teq (by decide : (1 : Int32) = (1 : Int32))).2 k) ?_
      show own_Go p e below K (T11.setTop (mkF m 63 #[.val (.int p1), .val (.int p2), .val (.int p3), .val (.int (2 : Int32)), .val (.ref w3), .val (.int (0 : Int32)), .val (.int (1 : Int32)), .val (.int (255 : Int32)), .unset, .unset, .unset] []))
      refine own_st (fun t k => XS.sipush X11.here hx rfl (hb hby at_63) k) ?_
      show own_Go p e below K (T11.setTop (mkF m 66 #[.val (.int p1), .val (.int p2), .val (.int p3), .val (.int (2 : Int32)), .val (.ref w3), .val (.int (0 : Int32)), .val (.int (1 : Int32)), .val (.int (255 : Int32)), .unset, .unset, .unset] [(.int (128 : Int32))]))
      refine own_st (fun t k => XS.goto X11.here hx rfl (pc0 := 66) (pc' := 71) rfl (hb hby at_66) (by decide) (by decide) k) ?_
      show own_Go p e below K (T11.setTop (mkF m 71 #[.val (.int p1), .val (.int p2), .val (.int p3), .val (.int (2 : Int32)), .val (.ref w3), .val (.int (0 : Int32)), .val (.int (1 : Int32)), .val (.int (255 : Int32)), .unset, .unset, .unset] [(.int (128 : Int32))]))
      refine own_st (fun t k => XS.istore X11.here hx rfl (hb hby at_71) rfl (l' := #[.val (.int p1), .val (.int p2), .val (.int p3), .val (.int (2 : Int32)), .val (.ref w3), .val (.int (0 : Int32)), .val (.int (1 : Int32)), .val (.int (255 : Int32)), .val (.int (128 : Int32)), .unset, .unset]) rfl k) ?_
      show own_Go p e below K (T11.setTop (mkF m 73 #[.val (.int p1), .val (.int p2), .val (.int p3), .val (.int (2 : Int32)), .val (.ref w3), .val (.int (0 : Int32)), .val (.int (1 : Int32)), .val (.int (255 : Int32)), .val (.int (128 : Int32)), .unset, .unset] []))
      refine own_st (fun t k => XS.iloadN X11.here hx rfl (hb hby at_73) rfl k) ?_
      show own_Go p e below K (T11.setTop (mkF m 74 #[.val (.int p1), .val (.int p2), .val (.int p3), .val (.int (2 : Int32)), .val (.ref w3), .val (.int (0 : Int32)), .val (.int (1 : Int32)), .val (.int (255 : Int32)), .val (.int (128 : Int32)), .unset, .unset] [(.int p3)]))
      refine own_st (fun t k => XS.iload X11.here hx rfl (hb hby at_74) rfl k) ?_
      show own_Go p e below K (T11.setTop (mkF m 76 #[.val (.int p1), .val (.int p2), .val (.int p3), .val (.int (2 : Int32)), .val (.ref w3), .val (.int (0 : Int32)), .val (.int (1 : Int32)), .val (.int (255 : Int32)), .val (.int (128 : Int32)), .unset, .unset] [(.int (255 : Int32)), (.int p3)]))
      refine own_st (fun t k => XS.iand X11.here hx rfl (hb hby at_76) rfl k) ?_
      show own_Go p e below K (T11.setTop (mkF m 77 #[.val (.int p1), .val (.int p2), .val (.int p3), .val (.int (2 : Int32)), .val (.ref w3), .val (.int (0 : Int32)), .val (.int (1 : Int32)), .val (.int (255 : Int32)), .val (.int (128 : Int32)), .unset, .unset] [(.int (p3 &&& (255 : Int32)))]))
      generalize hru : (p3 &&& (255 : Int32)) = ru
      show own_Go p e below K (T11.setTop (mkF m 77 #[.val (.int p1), .val (.int p2), .val (.int p3), .val (.int (2 : Int32)), .val (.ref w3), .val (.int (0 : Int32)), .val (.int (1 : Int32)), .val (.int (255 : Int32)), .val (.int (128 : Int32)), .unset, .unset] [(.int ru)]))
      refine own_st (fun t k => XS.istore X11.here hx rfl (hb hby at_77) rfl (l' := #[.val (.int p1), .val (.int p2), .val (.int p3), .val (.int (2 : Int32)), .val (.ref w3), .val (.int (0 : Int32)), .val (.int (1 : Int32)), .val (.int (255 : Int32)), .val (.int (128 : Int32)), .val (.int ru), .unset]) rfl k) ?_
      show own_Go p e below K (T11.setTop (mkF m 79 #[.val (.int p1), .val (.int p2), .val (.int p3), .val (.int (2 : Int32)), .val (.ref w3), .val (.int (0 : Int32)), .val (.int (1 : Int32)), .val (.int (255 : Int32)), .val (.int (128 : Int32)), .val (.int ru), .unset] []))
      refine own_st (fun t k => XS.iload X11.here hx rfl (hb hby at_79) rfl k) ?_
      show own_Go p e below K (T11.setTop (mkF m 81 #[.val (.int p1), .val (.int p2), .val (.int p3), .val (.int (2 : Int32)), .val (.ref w3), .val (.int (0 : Int32)), .val (.int (1 : Int32)), .val (.int (255 : Int32)), .val (.int (128 : Int32)), .val (.int ru), .unset] [(.int (0 : Int32))]))
      refine own_st (fun t k => XS.ifYes X11.here hx rfl (pc0 := 81) (pc' := 103) rfl (hb hby at_81) rfl ((if0 _ _).trans (teq (by decide : (0 : Int32) = (0 : Int32))).1) (by decide) (by decide) k) ?_
      show own_Go p e below K (T11.setTop (mkF m 103 #[.val (.int p1), .val (.int p2), .val (.int p3), .val (.int (2 : Int32)), .val (.ref w3), .val (.int (0 : Int32)), .val (.int (1 : Int32)), .val (.int (255 : Int32)), .val (.int (128 : Int32)), .val (.int ru), .unset] []))
      refine own_st (fun t k => XS.iload X11.here hx rfl (hb hby at_103) rfl k) ?_
      show own_Go p e below K (T11.setTop (mkF m 105 #[.val (.int p1), .val (.int p2), .val (.int p3), .val (.int (2 : Int32)), .val (.ref w3), .val (.int (0 : Int32)), .val (.int (1 : Int32)), .val (.int (255 : Int32)), .val (.int (128 : Int32)), .val (.int ru), .unset] [(.int ru)]))
      refine own_st (fun t k => XS.istore X11.here hx rfl (hb hby at_105) rfl (l' := #[.val (.int p1), .val (.int p2), .val (.int p3), .val (.int (2 : Int32)), .val (.ref w3), .val (.int (0 : Int32)), .val (.int (1 : Int32)), .val (.int (255 : Int32)), .val (.int (128 : Int32)), .val (.int ru), .val (.int ru)]) rfl k) ?_
      show own_Go p e below K (T11.setTop (mkF m 107 #[.val (.int p1), .val (.int p2), .val (.int p3), .val (.int (2 : Int32)), .val (.ref w3), .val (.int (0 : Int32)), .val (.int (1 : Int32)), .val (.int (255 : Int32)), .val (.int (128 : Int32)), .val (.int ru), .val (.int ru)] []))
      refine own_st (fun t k => XS.aload X11.here hx rfl (hb hby at_107) rfl rfl k) ?_
      show own_Go p e below K (T11.setTop (mkF m 109 #[.val (.int p1), .val (.int p2), .val (.int p3), .val (.int (2 : Int32)), .val (.ref w3), .val (.int (0 : Int32)), .val (.int (1 : Int32)), .val (.int (255 : Int32)), .val (.int (128 : Int32)), .val (.int ru), .val (.int ru)] [(.ref w3)]))
      refine own_st (fun t k => XS.iload X11.here hx rfl (hb hby at_109) rfl k) ?_
      show own_Go p e below K (T11.setTop (mkF m 111 #[.val (.int p1), .val (.int p2), .val (.int p3), .val (.int (2 : Int32)), .val (.ref w3), .val (.int (0 : Int32)), .val (.int (1 : Int32)), .val (.int (255 : Int32)), .val (.int (128 : Int32)), .val (.int ru), .val (.int ru)] [(.int ru), (.ref w3)]))
      refine own_st (fun t k => XS.iload X11.here hx rfl (hb hby at_111) rfl k) ?_
      show own_Go p e below K (T11.setTop (mkF m 113 #[.val (.int p1), .val (.int p2), .val (.int p3), .val (.int (2 : Int32)), .val (.ref w3), .val (.int (0 : Int32)), .val (.int (1 : Int32)), .val (.int (255 : Int32)), .val (.int (128 : Int32)), .val (.int ru), .val (.int ru)] [(.int (1 : Int32)), (.int ru), (.ref w3)]))
      obtain ⟨cq12, kq12, qv12a, qv12b, qv12c⟩ := isOf hZ e11 P7
      obtain ⟨_, _, ⟨T12, L12, k12, n12⟩, -, X12, ⟨Lc12, hQ12, l12, y12, z12⟩, st12⟩ := X11.virtualBack hx (y := (⟨"com/example/micrologue/micrologue/OperandKind", "value", "(II)I"⟩ : MethodName)) (z := (⟨"com/example/micrologue/micrologue/OperandKind", "value", "(II)I"⟩ : MethodName)) hown (mvT hZ (hw _ (List.mem_of_getElem? (i := 10) rfl))) (mvT hZ (hw _ (List.mem_of_getElem? (i := 11) rfl))) (notFace_of_selects (args := #[]) (mvT hZ (hw _ (List.mem_of_getElem? (i := 13) rfl)))) (mvT hZ (hw _ (List.mem_of_getElem? (i := 13) rfl))) (mvT hZ (hw _ (List.mem_of_getElem? (i := 12) rfl))) (by decide) (backOf (W := 0) (rm2 l Z a0 hw [] w3 ru (1 : Int32) ((0 : Int32)) h0 n0 Z0 P12) hZ (hw _ (List.mem_of_getElem? (i := 14) rfl)) (hw _ (List.mem_of_getElem? (i := 6) rfl)) (by decide) (by decide)) qv12a qv12c (g := (mkF m 113 #[.val (.int p1), .val (.int p2), .val (.int p3), .val (.int (2 : Int32)), .val (.ref w3), .val (.int (0 : Int32)), .val (.int (1 : Int32)), .val (.int (255 : Int32)), .val (.int (128 : Int32)), .val (.int ru), .val (.int ru)] [(.int (1 : Int32)), (.int ru), (.ref w3)])) rfl (by rw [hml]; rfl) (Steps.refl _) (argsL := [(.int ru), (.int (1 : Int32))]) (rest := []) (lenOf pd_0_1 rfl) rfl (by show 2 * 0 + _ ≤ _; exact Nat.le_of_eq rfl) (hb hby at_113) (fun _ _ => ⟨rfl, e11, (by decide : 0 + 0 ≤ _), (by decide : 0 + 0 ≤ _)⟩)
      dsimp only [Pt.U, Pt.locs, Pt.cells, Pt.slots] at X12 l12 y12 z12 st12 hQ12
      subst l12 y12 z12
      obtain ⟨r12, rfl, hr12, N12q, e12⟩ := hQ12
      have N12 := Fr.app N11 N12q
      refine own_tr st12 ?_
      show own_Go p e below K (T12.setTop (mkF m 116 #[.val (.int p1), .val (.int p2), .val (.int p3), .val (.int (2 : Int32)), .val (.ref w3), .val (.int (0 : Int32)), .val (.int (1 : Int32)), .val (.int (255 : Int32)), .val (.int (128 : Int32)), .val (.int ru), .val (.int ru)] [(.int r12)]))
      refine own_st (fun t k => XS.iload X12.here hx rfl (hb hby at_116) rfl k) ?_
      show own_Go p e below K (T12.setTop (mkF m 118 #[.val (.int p1), .val (.int p2), .val (.int p3), .val (.int (2 : Int32)), .val (.ref w3), .val (.int (0 : Int32)), .val (.int (1 : Int32)), .val (.int (255 : Int32)), .val (.int (128 : Int32)), .val (.int ru), .val (.int ru)] [(.int ru), (.int r12)]))
      refine own_st (fun t k => XS.icmpNo X12.here hx rfl (hb hby at_118) rfl (teq (hr12.trans (own_u _ _) : r12 = ru)).2 k) ?_
      show own_Go p e below K (T12.setTop (mkF m 121 #[.val (.int p1), .val (.int p2), .val (.int p3), .val (.int (2 : Int32)), .val (.ref w3), .val (.int (0 : Int32)), .val (.int (1 : Int32)), .val (.int (255 : Int32)), .val (.int (128 : Int32)), .val (.int ru), .val (.int ru)] []))
      refine own_st (fun t k => XS.iconst X12.here hx rfl (hb hby at_121) k) ?_
      show own_Go p e below K (T12.setTop (mkF m 122 #[.val (.int p1), .val (.int p2), .val (.int p3), .val (.int (2 : Int32)), .val (.ref w3), .val (.int (0 : Int32)), .val (.int (1 : Int32)), .val (.int (255 : Int32)), .val (.int (128 : Int32)), .val (.int ru), .val (.int ru)] [(.int (1 : Int32))]))
      refine own_st (fun t k => XS.goto X12.here hx rfl (pc0 := 122) (pc' := 126) rfl (hb hby at_122) (by decide) (by decide) k) ?_
      show own_Go p e below K (T12.setTop (mkF m 126 #[.val (.int p1), .val (.int p2), .val (.int p3), .val (.int (2 : Int32)), .val (.ref w3), .val (.int (0 : Int32)), .val (.int (1 : Int32)), .val (.int (255 : Int32)), .val (.int (128 : Int32)), .val (.int ru), .val (.int ru)] [(.int (1 : Int32))]))
      obtain ⟨fs, hr, hrun, hended, hW, hsame⟩ := X12.leave (v := some (.int (nar .boolean (1 : Int32)))) (fun h => by rw [Bd.returns] at h; cases h)
      refine ⟨_, retN X12 hx (t := .boolean) Bd.returns (by simp) (hb hby at_126) hr, fin _ _ _ hrun hended ?_ ⟨⟨_, rfl⟩, hW, hsame.mono (by decide) (by decide)⟩⟩
      show Q0 Z p1 p2 p3 w1 w2 w3 w4 w5 h0 n0 _ T12.heap _
      rw [e12]
      exact ⟨rfl, N12⟩
    subst hs
    show own_Go p e below K (T11.setTop (mkF m 39 #[.val (.int p1), .val (.int p2), .val (.int p3), .val (.int (2 : Int32)), .val (.ref w3), .val (.int (0 : Int32)), .unset, .unset, .unset, .unset, .unset] [(.int (2 : Int32))]))
    refine own_st (fun t k => XS.istore X11.here hx rfl (hb hby at_39) rfl (l' := #[.val (.int p1), .val (.int p2), .val (.int p3), .val (.int (2 : Int32)), .val (.ref w3), .val (.int (0 : Int32)), .val (.int (2 : Int32)), .unset, .unset, .unset, .unset]) rfl k) ?_
    show own_Go p e below K (T11.setTop (mkF m 41 #[.val (.int p1), .val (.int p2), .val (.int p3), .val (.int (2 : Int32)), .val (.ref w3), .val (.int (0 : Int32)), .val (.int (2 : Int32)), .unset, .unset, .unset, .unset] []))
    refine own_st (fun t k => XS.iload X11.here hx rfl (hb hby at_41) rfl k) ?_
    show own_Go p e below K (T11.setTop (mkF m 43 #[.val (.int p1), .val (.int p2), .val (.int p3), .val (.int (2 : Int32)), .val (.ref w3), .val (.int (0 : Int32)), .val (.int (2 : Int32)), .unset, .unset, .unset, .unset] [(.int (2 : Int32))]))
    refine own_st (fun t k => XS.iconst X11.here hx rfl (hb hby at_43) k) ?_
    show own_Go p e below K (T11.setTop (mkF m 44 #[.val (.int p1), .val (.int p2), .val (.int p3), .val (.int (2 : Int32)), .val (.ref w3), .val (.int (0 : Int32)), .val (.int (2 : Int32)), .unset, .unset, .unset, .unset] [(.int (1 : Int32)), (.int (2 : Int32))]))
    refine own_st (fun t k => XS.icmpYes X11.here hx rfl (pc0 := 44) (pc' := 53) rfl (hb hby at_44) rfl (feq (by decide : ¬ ((2 : Int32) = (1 : Int32)))).2 (by decide) (by decide) k) ?_
    show own_Go p e below K (T11.setTop (mkF m 53 #[.val (.int p1), .val (.int p2), .val (.int p3), .val (.int (2 : Int32)), .val (.ref w3), .val (.int (0 : Int32)), .val (.int (2 : Int32)), .unset, .unset, .unset, .unset] []))
    refine own_st (X11.ldcInt hx hown (mvT hZ (hw _ (List.mem_of_getElem? (i := 8) rfl))) (g := (mkF m 53 #[.val (.int p1), .val (.int p2), .val (.int p3), .val (.int (2 : Int32)), .val (.ref w3), .val (.int (0 : Int32)), .val (.int (2 : Int32)), .unset, .unset, .unset, .unset] [])) rfl (hb hby at_53)) ?_
    show own_Go p e below K (T11.setTop (mkF m 55 #[.val (.int p1), .val (.int p2), .val (.int p3), .val (.int (2 : Int32)), .val (.ref w3), .val (.int (0 : Int32)), .val (.int (2 : Int32)), .unset, .unset, .unset, .unset] [(.int (65535 : Int32))]))
    refine own_st (fun t k => XS.istore X11.here hx rfl (hb hby at_55) rfl (l' := #[.val (.int p1), .val (.int p2), .val (.int p3), .val (.int (2 : Int32)), .val (.ref w3), .val (.int (0 : Int32)), .val (.int (2 : Int32)), .val (.int (65535 : Int32)), .unset, .unset, .unset]) rfl k) ?_
    show own_Go p e below K (T11.setTop (mkF m 57 #[.val (.int p1), .val (.int p2), .val (.int p3), .val (.int (2 : Int32)), .val (.ref w3), .val (.int (0 : Int32)), .val (.int (2 : Int32)), .val (.int (65535 : Int32)), .unset, .unset, .unset] []))
    refine own_st (fun t k => XS.iload X11.here hx rfl (hb hby at_57) rfl k) ?_
    show own_Go p e below K (T11.setTop (mkF m 59 #[.val (.int p1), .val (.int p2), .val (.int p3), .val (.int (2 : Int32)), .val (.ref w3), .val (.int (0 : Int32)), .val (.int (2 : Int32)), .val (.int (65535 : Int32)), .unset, .unset, .unset] [(.int (2 : Int32))]))
    refine own_st (fun t k => XS.iconst X11.here hx rfl (hb hby at_59) k) ?_
    show own_Go p e below K (T11.setTop (mkF m 60 #[.val (.int p1), .val (.int p2), .val (.int p3), .val (.int (2 : Int32)), .val (.ref w3), .val (.int (0 : Int32)), .val (.int (2 : Int32)), .val (.int (65535 : Int32)), .unset, .unset, .unset] [(.int (1 : Int32)), (.int (2 : Int32))]))
    refine own_st (fun t k => XS.icmpYes X11.here hx rfl (pc0 := 60) (pc' := 69) rfl (hb hby at_60) rfl (feq (by decide : ¬ ((2 : Int32) = (1 : Int32)))).2 (by decide) (by decide) k) ?_
    show own_Go p e below K (T11.setTop (mkF m 69 #[.val (.int p1), .val (.int p2), .val (.int p3), .val (.int (2 : Int32)), .val (.ref w3), .val (.int (0 : Int32)), .val (.int (2 : Int32)), .val (.int (65535 : Int32)), .unset, .unset, .unset] []))
    refine own_st (X11.ldcInt hx hown (mvT hZ (hw _ (List.mem_of_getElem? (i := 9) rfl))) (g := (mkF m 69 #[.val (.int p1), .val (.int p2), .val (.int p3), .val (.int (2 : Int32)), .val (.ref w3), .val (.int (0 : Int32)), .val (.int (2 : Int32)), .val (.int (65535 : Int32)), .unset, .unset, .unset] [])) rfl (hb hby at_69)) ?_
    show own_Go p e below K (T11.setTop (mkF m 71 #[.val (.int p1), .val (.int p2), .val (.int p3), .val (.int (2 : Int32)), .val (.ref w3), .val (.int (0 : Int32)), .val (.int (2 : Int32)), .val (.int (65535 : Int32)), .unset, .unset, .unset] [(.int (32768 : Int32))]))
    refine own_st (fun t k => XS.istore X11.here hx rfl (hb hby at_71) rfl (l' := #[.val (.int p1), .val (.int p2), .val (.int p3), .val (.int (2 : Int32)), .val (.ref w3), .val (.int (0 : Int32)), .val (.int (2 : Int32)), .val (.int (65535 : Int32)), .val (.int (32768 : Int32)), .unset, .unset]) rfl k) ?_
    show own_Go p e below K (T11.setTop (mkF m 73 #[.val (.int p1), .val (.int p2), .val (.int p3), .val (.int (2 : Int32)), .val (.ref w3), .val (.int (0 : Int32)), .val (.int (2 : Int32)), .val (.int (65535 : Int32)), .val (.int (32768 : Int32)), .unset, .unset] []))
    refine own_st (fun t k => XS.iloadN X11.here hx rfl (hb hby at_73) rfl k) ?_
    show own_Go p e below K (T11.setTop (mkF m 74 #[.val (.int p1), .val (.int p2), .val (.int p3), .val (.int (2 : Int32)), .val (.ref w3), .val (.int (0 : Int32)), .val (.int (2 : Int32)), .val (.int (65535 : Int32)), .val (.int (32768 : Int32)), .unset, .unset] [(.int p3)]))
    refine own_st (fun t k => XS.iload X11.here hx rfl (hb hby at_74) rfl k) ?_
    show own_Go p e below K (T11.setTop (mkF m 76 #[.val (.int p1), .val (.int p2), .val (.int p3), .val (.int (2 : Int32)), .val (.ref w3), .val (.int (0 : Int32)), .val (.int (2 : Int32)), .val (.int (65535 : Int32)), .val (.int (32768 : Int32)), .unset, .unset] [(.int (65535 : Int32)), (.int p3)]))
    refine own_st (fun t k => XS.iand X11.here hx rfl (hb hby at_76) rfl k) ?_
    show own_Go p e below K (T11.setTop (mkF m 77 #[.val (.int p1), .val (.int p2), .val (.int p3), .val (.int (2 : Int32)), .val (.ref w3), .val (.int (0 : Int32)), .val (.int (2 : Int32)), .val (.int (65535 : Int32)), .val (.int (32768 : Int32)), .unset, .unset] [(.int (p3 &&& (65535 : Int32)))]))
    generalize hru : (p3 &&& (65535 : Int32)) = ru
    show own_Go p e below K (T11.setTop (mkF m 77 #[.val (.int p1), .val (.int p2), .val (.int p3), .val (.int (2 : Int32)), .val (.ref w3), .val (.int (0 : Int32)), .val (.int (2 : Int32)), .val (.int (65535 : Int32)), .val (.int (32768 : Int32)), .unset, .unset] [(.int ru)]))
    refine own_st (fun t k => XS.istore X11.here hx rfl (hb hby at_77) rfl (l' := #[.val (.int p1), .val (.int p2), .val (.int p3), .val (.int (2 : Int32)), .val (.ref w3), .val (.int (0 : Int32)), .val (.int (2 : Int32)), .val (.int (65535 : Int32)), .val (.int (32768 : Int32)), .val (.int ru), .unset]) rfl k) ?_
    show own_Go p e below K (T11.setTop (mkF m 79 #[.val (.int p1), .val (.int p2), .val (.int p3), .val (.int (2 : Int32)), .val (.ref w3), .val (.int (0 : Int32)), .val (.int (2 : Int32)), .val (.int (65535 : Int32)), .val (.int (32768 : Int32)), .val (.int ru), .unset] []))
    refine own_st (fun t k => XS.iload X11.here hx rfl (hb hby at_79) rfl k) ?_
    show own_Go p e below K (T11.setTop (mkF m 81 #[.val (.int p1), .val (.int p2), .val (.int p3), .val (.int (2 : Int32)), .val (.ref w3), .val (.int (0 : Int32)), .val (.int (2 : Int32)), .val (.int (65535 : Int32)), .val (.int (32768 : Int32)), .val (.int ru), .unset] [(.int (0 : Int32))]))
    refine own_st (fun t k => XS.ifYes X11.here hx rfl (pc0 := 81) (pc' := 103) rfl (hb hby at_81) rfl ((if0 _ _).trans (teq (by decide : (0 : Int32) = (0 : Int32))).1) (by decide) (by decide) k) ?_
    show own_Go p e below K (T11.setTop (mkF m 103 #[.val (.int p1), .val (.int p2), .val (.int p3), .val (.int (2 : Int32)), .val (.ref w3), .val (.int (0 : Int32)), .val (.int (2 : Int32)), .val (.int (65535 : Int32)), .val (.int (32768 : Int32)), .val (.int ru), .unset] []))
    refine own_st (fun t k => XS.iload X11.here hx rfl (hb hby at_103) rfl k) ?_
    show own_Go p e below K (T11.setTop (mkF m 105 #[.val (.int p1), .val (.int p2), .val (.int p3), .val (.int (2 : Int32)), .val (.ref w3), .val (.int (0 : Int32)), .val (.int (2 : Int32)), .val (.int (65535 : Int32)), .val (.int (32768 : Int32)), .val (.int ru), .unset] [(.int ru)]))
    refine own_st (fun t k => XS.istore X11.here hx rfl (hb hby at_105) rfl (l' := #[.val (.int p1), .val (.int p2), .val (.int p3), .val (.int (2 : Int32)), .val (.ref w3), .val (.int (0 : Int32)), .val (.int (2 : Int32)), .val (.int (65535 : Int32)), .val (.int (32768 : Int32)), .val (.int ru), .val (.int ru)]) rfl k) ?_
    show own_Go p e below K (T11.setTop (mkF m 107 #[.val (.int p1), .val (.int p2), .val (.int p3), .val (.int (2 : Int32)), .val (.ref w3), .val (.int (0 : Int32)), .val (.int (2 : Int32)), .val (.int (65535 : Int32)), .val (.int (32768 : Int32)), .val (.int ru), .val (.int ru)] []))
    refine own_st (fun t k => XS.aload X11.here hx rfl (hb hby at_107) rfl rfl k) ?_
    show own_Go p e below K (T11.setTop (mkF m 109 #[.val (.int p1), .val (.int p2), .val (.int p3), .val (.int (2 : Int32)), .val (.ref w3), .val (.int (0 : Int32)), .val (.int (2 : Int32)), .val (.int (65535 : Int32)), .val (.int (32768 : Int32)), .val (.int ru), .val (.int ru)] [(.ref w3)]))
    refine own_st (fun t k => XS.iload X11.here hx rfl (hb hby at_109) rfl k) ?_
    show own_Go p e below K (T11.setTop (mkF m 111 #[.val (.int p1), .val (.int p2), .val (.int p3), .val (.int (2 : Int32)), .val (.ref w3), .val (.int (0 : Int32)), .val (.int (2 : Int32)), .val (.int (65535 : Int32)), .val (.int (32768 : Int32)), .val (.int ru), .val (.int ru)] [(.int ru), (.ref w3)]))
    refine own_st (fun t k => XS.iload X11.here hx rfl (hb hby at_111) rfl k) ?_
    show own_Go p e below K (T11.setTop (mkF m 113 #[.val (.int p1), .val (.int p2), .val (.int p3), .val (.int (2 : Int32)), .val (.ref w3), .val (.int (0 : Int32)), .val (.int (2 : Int32)), .val (.int (65535 : Int32)), .val (.int (32768 : Int32)), .val (.int ru), .val (.int ru)] [(.int (2 : Int32)), (.int ru), (.ref w3)]))
    obtain ⟨cq13, kq13, qv13a, qv13b, qv13c⟩ := isOf hZ e11 P7
    obtain ⟨_, _, ⟨T13, L13, k13, n13⟩, -, X13, ⟨Lc13, hQ13, l13, y13, z13⟩, st13⟩ := X11.virtualBack hx (y := (⟨"com/example/micrologue/micrologue/OperandKind", "value", "(II)I"⟩ : MethodName)) (z := (⟨"com/example/micrologue/micrologue/OperandKind", "value", "(II)I"⟩ : MethodName)) hown (mvT hZ (hw _ (List.mem_of_getElem? (i := 10) rfl))) (mvT hZ (hw _ (List.mem_of_getElem? (i := 11) rfl))) (notFace_of_selects (args := #[]) (mvT hZ (hw _ (List.mem_of_getElem? (i := 13) rfl)))) (mvT hZ (hw _ (List.mem_of_getElem? (i := 13) rfl))) (mvT hZ (hw _ (List.mem_of_getElem? (i := 12) rfl))) (by decide) (backOf (W := 0) (rm2 l Z a0 hw [] w3 ru (2 : Int32) ((0 : Int32)) h0 n0 Z0 P12) hZ (hw _ (List.mem_of_getElem? (i := 14) rfl)) (hw _ (List.mem_of_getElem? (i := 6) rfl)) (by decide) (by decide)) qv13a qv13c (g := (mkF m 113 #[.val (.int p1), .val (.int p2), .val (.int p3), .val (.int (2 : Int32)), .val (.ref w3), .val (.int (0 : Int32)), .val (.int (2 : Int32)), .val (.int (65535 : Int32)), .val (.int (32768 : Int32)), .val (.int ru), .val (.int ru)] [(.int (2 : Int32)), (.int ru), (.ref w3)])) rfl (by rw [hml]; rfl) (Steps.refl _) (argsL := [(.int ru), (.int (2 : Int32))]) (rest := []) (lenOf pd_0_1 rfl) rfl (by show 2 * 0 + _ ≤ _; exact Nat.le_of_eq rfl) (hb hby at_113) (fun _ _ => ⟨rfl, e11, (by decide : 0 + 0 ≤ _), (by decide : 0 + 0 ≤ _)⟩)
    dsimp only [Pt.U, Pt.locs, Pt.cells, Pt.slots] at X13 l13 y13 z13 st13 hQ13
    subst l13 y13 z13
    obtain ⟨r13, rfl, hr13, N13q, e13⟩ := hQ13
    have N13 := Fr.app N11 N13q
    refine own_tr st13 ?_
    show own_Go p e below K (T13.setTop (mkF m 116 #[.val (.int p1), .val (.int p2), .val (.int p3), .val (.int (2 : Int32)), .val (.ref w3), .val (.int (0 : Int32)), .val (.int (2 : Int32)), .val (.int (65535 : Int32)), .val (.int (32768 : Int32)), .val (.int ru), .val (.int ru)] [(.int r13)]))
    refine own_st (fun t k => XS.iload X13.here hx rfl (hb hby at_116) rfl k) ?_
    show own_Go p e below K (T13.setTop (mkF m 118 #[.val (.int p1), .val (.int p2), .val (.int p3), .val (.int (2 : Int32)), .val (.ref w3), .val (.int (0 : Int32)), .val (.int (2 : Int32)), .val (.int (65535 : Int32)), .val (.int (32768 : Int32)), .val (.int ru), .val (.int ru)] [(.int ru), (.int r13)]))
    refine own_st (fun t k => XS.icmpNo X13.here hx rfl (hb hby at_118) rfl (teq (hr13.trans (own_u _ _) : r13 = ru)).2 k) ?_
    show own_Go p e below K (T13.setTop (mkF m 121 #[.val (.int p1), .val (.int p2), .val (.int p3), .val (.int (2 : Int32)), .val (.ref w3), .val (.int (0 : Int32)), .val (.int (2 : Int32)), .val (.int (65535 : Int32)), .val (.int (32768 : Int32)), .val (.int ru), .val (.int ru)] []))
    refine own_st (fun t k => XS.iconst X13.here hx rfl (hb hby at_121) k) ?_
    show own_Go p e below K (T13.setTop (mkF m 122 #[.val (.int p1), .val (.int p2), .val (.int p3), .val (.int (2 : Int32)), .val (.ref w3), .val (.int (0 : Int32)), .val (.int (2 : Int32)), .val (.int (65535 : Int32)), .val (.int (32768 : Int32)), .val (.int ru), .val (.int ru)] [(.int (1 : Int32))]))
    refine own_st (fun t k => XS.goto X13.here hx rfl (pc0 := 122) (pc' := 126) rfl (hb hby at_122) (by decide) (by decide) k) ?_
    show own_Go p e below K (T13.setTop (mkF m 126 #[.val (.int p1), .val (.int p2), .val (.int p3), .val (.int (2 : Int32)), .val (.ref w3), .val (.int (0 : Int32)), .val (.int (2 : Int32)), .val (.int (65535 : Int32)), .val (.int (32768 : Int32)), .val (.int ru), .val (.int ru)] [(.int (1 : Int32))]))
    obtain ⟨fs, hr, hrun, hended, hW, hsame⟩ := X13.leave (v := some (.int (nar .boolean (1 : Int32)))) (fun h => by rw [Bd.returns] at h; cases h)
    refine ⟨_, retN X13 hx (t := .boolean) Bd.returns (by simp) (hb hby at_126) hr, fin _ _ _ hrun hended ?_ ⟨⟨_, rfl⟩, hW, hsame.mono (by decide) (by decide)⟩⟩
    show Q0 Z p1 p2 p3 w1 w2 w3 w4 w5 h0 n0 _ T13.heap _
    rw [e13]
    exact ⟨rfl, N13⟩
  · subst hs
    show own_Go p e below K (s₁.setTop (mkF m 6 #[.val (.int p1), .val (.int p2), .val (.int p3), .unset, .unset, .unset, .unset, .unset, .unset, .unset, .unset] [(.int (3 : Int32))]))
    refine own_st (fun t k => XS.istoreN X0.here hx rfl (hb hby at_6) rfl (l' := #[.val (.int p1), .val (.int p2), .val (.int p3), .val (.int (3 : Int32)), .unset, .unset, .unset, .unset, .unset, .unset, .unset]) rfl k) ?_
    show own_Go p e below K (s₁.setTop (mkF m 7 #[.val (.int p1), .val (.int p2), .val (.int p3), .val (.int (3 : Int32)), .unset, .unset, .unset, .unset, .unset, .unset, .unset] []))
    refine own_st (fun t k => XS.iloadN X0.here hx rfl (hb hby at_7) rfl k) ?_
    show own_Go p e below K (s₁.setTop (mkF m 8 #[.val (.int p1), .val (.int p2), .val (.int p3), .val (.int (3 : Int32)), .unset, .unset, .unset, .unset, .unset, .unset, .unset] [(.int (3 : Int32))]))
    obtain ⟨_, _, ⟨T14, L14, k14, n14⟩, -, X14, ⟨Lc14, hQ14, l14, y14, z14⟩, st14⟩ := Jvm.LawKit.callS X0 hx (y := (⟨"com/example/micrologue/micrologue/OperandKindValuePinLaw", "kindOf", "(I)Lcom/example/micrologue/micrologue/OperandKind;"⟩ : MethodName)) hown (mvT hZ (hw _ (List.mem_of_getElem? (i := 1) rfl))) (mvT hZ (hw _ (List.mem_of_getElem? (i := 2) rfl))) (mvT hZ (hw _ (List.mem_of_getElem? (i := 3) rfl))) (mvT hZ (hw _ (List.mem_of_getElem? (i := 4) rfl))) (by decide) (backOf (W := 0) (rm1 l Z a0 hw [] (3 : Int32) (w1) (w2) (w3) (w4) (w5) h0 n0 Z0 P0 P1 P2 P3 P4) hZ (hw _ (List.mem_of_getElem? (i := 4) rfl)) (hw _ (List.mem_of_getElem? (i := 3) rfl)) (by decide) (by decide)) (g := (mkF m 8 #[.val (.int p1), .val (.int p2), .val (.int p3), .val (.int (3 : Int32)), .unset, .unset, .unset, .unset, .unset, .unset, .unset] [(.int (3 : Int32))])) rfl (by rw [hml]; rfl) (argsL := [(.int (3 : Int32))]) (rest := []) (lenOf pd_0_0 rfl) rfl (by show 2 * 0 + _ ≤ _; exact Nat.le_of_eq rfl) (hb hby at_8) (fun _ _ => ⟨rfl, e0, (by decide : 0 + 0 ≤ _), (by decide : 0 + 0 ≤ _)⟩)
    dsimp only [Pt.U, Pt.locs, Pt.cells, Pt.slots] at X14 l14 y14 z14 st14 hQ14
    subst l14 y14 z14
    obtain ⟨r14, rfl, hr14, N14q, e14⟩ := hQ14
    have N14 := Fr.app N0 N14q
    refine own_st st14 ?_
    show own_Go p e below K (T14.setTop (mkF m 11 #[.val (.int p1), .val (.int p2), .val (.int p3), .val (.int (3 : Int32)), .unset, .unset, .unset, .unset, .unset, .unset, .unset] [(.ref r14)]))
    have hs := ((hr14.trans (own_k3 w1 w2 w3 w4 w5)).symm : w4 = r14)
    subst hs
    show own_Go p e below K (T14.setTop (mkF m 11 #[.val (.int p1), .val (.int p2), .val (.int p3), .val (.int (3 : Int32)), .unset, .unset, .unset, .unset, .unset, .unset, .unset] [(.ref w4)]))
    refine own_st (fun t k => XS.astore X14.here hx rfl (hb hby at_11) rfl rfl (l' := #[.val (.int p1), .val (.int p2), .val (.int p3), .val (.int (3 : Int32)), .val (.ref w4), .unset, .unset, .unset, .unset, .unset, .unset]) rfl k) ?_
    show own_Go p e below K (T14.setTop (mkF m 13 #[.val (.int p1), .val (.int p2), .val (.int p3), .val (.int (3 : Int32)), .val (.ref w4), .unset, .unset, .unset, .unset, .unset, .unset] []))
    refine own_st (fun t k => XS.iloadN X14.here hx rfl (hb hby at_13) rfl k) ?_
    show own_Go p e below K (T14.setTop (mkF m 14 #[.val (.int p1), .val (.int p2), .val (.int p3), .val (.int (3 : Int32)), .val (.ref w4), .unset, .unset, .unset, .unset, .unset, .unset] [(.int (3 : Int32))]))
    refine own_st (fun t k => XS.ifNo X14.here hx rfl (hb hby at_14) rfl ((if0 _ _).trans (feq (by decide : ¬ ((3 : Int32) = (0 : Int32)))).1) k) ?_
    show own_Go p e below K (T14.setTop (mkF m 17 #[.val (.int p1), .val (.int p2), .val (.int p3), .val (.int (3 : Int32)), .val (.ref w4), .unset, .unset, .unset, .unset, .unset, .unset] []))
    refine own_st (fun t k => XS.iloadN X14.here hx rfl (hb hby at_17) rfl k) ?_
    show own_Go p e below K (T14.setTop (mkF m 18 #[.val (.int p1), .val (.int p2), .val (.int p3), .val (.int (3 : Int32)), .val (.ref w4), .unset, .unset, .unset, .unset, .unset, .unset] [(.int (3 : Int32))]))
    refine own_st (fun t k => XS.iconst X14.here hx rfl (hb hby at_18) k) ?_
    show own_Go p e below K (T14.setTop (mkF m 19 #[.val (.int p1), .val (.int p2), .val (.int p3), .val (.int (3 : Int32)), .val (.ref w4), .unset, .unset, .unset, .unset, .unset, .unset] [(.int (1 : Int32)), (.int (3 : Int32))]))
    refine own_st (fun t k => XS.icmpNo X14.here hx rfl (hb hby at_19) rfl (feq (by decide : ¬ ((3 : Int32) = (1 : Int32)))).1 k) ?_
    show own_Go p e below K (T14.setTop (mkF m 22 #[.val (.int p1), .val (.int p2), .val (.int p3), .val (.int (3 : Int32)), .val (.ref w4), .unset, .unset, .unset, .unset, .unset, .unset] []))
    refine own_st (fun t k => XS.iloadN X14.here hx rfl (hb hby at_22) rfl k) ?_
    show own_Go p e below K (T14.setTop (mkF m 23 #[.val (.int p1), .val (.int p2), .val (.int p3), .val (.int (3 : Int32)), .val (.ref w4), .unset, .unset, .unset, .unset, .unset, .unset] [(.int (3 : Int32))]))
    refine own_st (fun t k => XS.iconst X14.here hx rfl (hb hby at_23) k) ?_
    show own_Go p e below K (T14.setTop (mkF m 24 #[.val (.int p1), .val (.int p2), .val (.int p3), .val (.int (3 : Int32)), .val (.ref w4), .unset, .unset, .unset, .unset, .unset, .unset] [(.int (3 : Int32)), (.int (3 : Int32))]))
    refine own_st (fun t k => XS.icmpNo X14.here hx rfl (hb hby at_24) rfl (teq (by decide : (3 : Int32) = (3 : Int32))).2 k) ?_
    show own_Go p e below K (T14.setTop (mkF m 27 #[.val (.int p1), .val (.int p2), .val (.int p3), .val (.int (3 : Int32)), .val (.ref w4), .unset, .unset, .unset, .unset, .unset, .unset] []))
    refine own_st (fun t k => XS.iconst X14.here hx rfl (hb hby at_27) k) ?_
    show own_Go p e below K (T14.setTop (mkF m 28 #[.val (.int p1), .val (.int p2), .val (.int p3), .val (.int (3 : Int32)), .val (.ref w4), .unset, .unset, .unset, .unset, .unset, .unset] [(.int (1 : Int32))]))
    refine own_st (fun t k => XS.goto X14.here hx rfl (pc0 := 28) (pc' := 32) rfl (hb hby at_28) (by decide) (by decide) k) ?_
    show own_Go p e below K (T14.setTop (mkF m 32 #[.val (.int p1), .val (.int p2), .val (.int p3), .val (.int (3 : Int32)), .val (.ref w4), .unset, .unset, .unset, .unset, .unset, .unset] [(.int (1 : Int32))]))
    refine own_st (fun t k => XS.istore X14.here hx rfl (hb hby at_32) rfl (l' := #[.val (.int p1), .val (.int p2), .val (.int p3), .val (.int (3 : Int32)), .val (.ref w4), .val (.int (1 : Int32)), .unset, .unset, .unset, .unset, .unset]) rfl k) ?_
    show own_Go p e below K (T14.setTop (mkF m 34 #[.val (.int p1), .val (.int p2), .val (.int p3), .val (.int (3 : Int32)), .val (.ref w4), .val (.int (1 : Int32)), .unset, .unset, .unset, .unset, .unset] []))
    refine own_st (fun t k => XS.iconst X14.here hx rfl (hb hby at_34) k) ?_
    show own_Go p e below K (T14.setTop (mkF m 35 #[.val (.int p1), .val (.int p2), .val (.int p3), .val (.int (3 : Int32)), .val (.ref w4), .val (.int (1 : Int32)), .unset, .unset, .unset, .unset, .unset] [(.int (1 : Int32))]))
    refine own_st (fun t k => XS.iloadN X14.here hx rfl (hb hby at_35) rfl k) ?_
    show own_Go p e below K (T14.setTop (mkF m 36 #[.val (.int p1), .val (.int p2), .val (.int p3), .val (.int (3 : Int32)), .val (.ref w4), .val (.int (1 : Int32)), .unset, .unset, .unset, .unset, .unset] [(.int p2), (.int (1 : Int32))]))
    refine own_st (fun t k => XS.iconst X14.here hx rfl (hb hby at_36) k) ?_
    show own_Go p e below K (T14.setTop (mkF m 37 #[.val (.int p1), .val (.int p2), .val (.int p3), .val (.int (3 : Int32)), .val (.ref w4), .val (.int (1 : Int32)), .unset, .unset, .unset, .unset, .unset] [(.int (1 : Int32)), (.int p2), (.int (1 : Int32))]))
    refine own_st (fun t k => XS.iand X14.here hx rfl (hb hby at_37) rfl k) ?_
    show own_Go p e below K (T14.setTop (mkF m 38 #[.val (.int p1), .val (.int p2), .val (.int p3), .val (.int (3 : Int32)), .val (.ref w4), .val (.int (1 : Int32)), .unset, .unset, .unset, .unset, .unset] [(.int (p2 &&& (1 : Int32))), (.int (1 : Int32))]))
    refine own_st (fun t k => XS.iadd X14.here hx rfl (hb hby at_38) rfl k) ?_
    show own_Go p e below K (T14.setTop (mkF m 39 #[.val (.int p1), .val (.int p2), .val (.int p3), .val (.int (3 : Int32)), .val (.ref w4), .val (.int (1 : Int32)), .unset, .unset, .unset, .unset, .unset] [(.int ((1 : Int32) + (p2 &&& (1 : Int32))))]))
    generalize hnb : ((1 : Int32) + (p2 &&& (1 : Int32))) = nb
    show own_Go p e below K (T14.setTop (mkF m 39 #[.val (.int p1), .val (.int p2), .val (.int p3), .val (.int (3 : Int32)), .val (.ref w4), .val (.int (1 : Int32)), .unset, .unset, .unset, .unset, .unset] [(.int nb)]))
    rcases own_nbb hnb with hs | hs
    · subst hs
      show own_Go p e below K (T14.setTop (mkF m 39 #[.val (.int p1), .val (.int p2), .val (.int p3), .val (.int (3 : Int32)), .val (.ref w4), .val (.int (1 : Int32)), .unset, .unset, .unset, .unset, .unset] [(.int (1 : Int32))]))
      refine own_st (fun t k => XS.istore X14.here hx rfl (hb hby at_39) rfl (l' := #[.val (.int p1), .val (.int p2), .val (.int p3), .val (.int (3 : Int32)), .val (.ref w4), .val (.int (1 : Int32)), .val (.int (1 : Int32)), .unset, .unset, .unset, .unset]) rfl k) ?_
      show own_Go p e below K (T14.setTop (mkF m 41 #[.val (.int p1), .val (.int p2), .val (.int p3), .val (.int (3 : Int32)), .val (.ref w4), .val (.int (1 : Int32)), .val (.int (1 : Int32)), .unset, .unset, .unset, .unset] []))
      refine own_st (fun t k => XS.iload X14.here hx rfl (hb hby at_41) rfl k) ?_
      show own_Go p e below K (T14.setTop (mkF m 43 #[.val (.int p1), .val (.int p2), .val (.int p3), .val (.int (3 : Int32)), .val (.ref w4), .val (.int (1 : Int32)), .val (.int (1 : Int32)), .unset, .unset, .unset, .unset] [(.int (1 : Int32))]))
      refine own_st (fun t k => XS.iconst X14.here hx rfl (hb hby at_43) k) ?_
      show own_Go p e below K (T14.setTop (mkF m 44 #[.val (.int p1), .val (.int p2), .val (.int p3), .val (.int (3 : Int32)), .val (.ref w4), .val (.int (1 : Int32)), .val (.int (1 : Int32)), .unset, .unset, .unset, .unset] [(.int (1 : Int32)), (.int (1 : Int32))]))
      refine own_st (fun t k => XS.icmpNo X14.here hx rfl (hb hby at_44) rfl (teq (by decide : (1 : Int32) = (1 : Int32))).2 k) ?_
      show own_Go p e below K (T14.setTop (mkF m 47 #[.val (.int p1), .val (.int p2), .val (.int p3), .val (.int (3 : Int32)), .val (.ref w4), .val (.int (1 : Int32)), .val (.int (1 : Int32)), .unset, .unset, .unset, .unset] []))
      refine own_st (fun t k => XS.sipush X14.here hx rfl (hb hby at_47) k) ?_
      show own_Go p e below K (T14.setTop (mkF m 50 #[.val (.int p1), .val (.int p2), .val (.int p3), .val (.int (3 : Int32)), .val (.ref w4), .val (.int (1 : Int32)), .val (.int (1 : Int32)), .unset, .unset, .unset, .unset] [(.int (255 : Int32))]))
      refine own_st (fun t k => XS.goto X14.here hx rfl (pc0 := 50) (pc' := 55) rfl (hb hby at_50) (by decide) (by decide) k) ?_
      show own_Go p e below K (T14.setTop (mkF m 55 #[.val (.int p1), .val (.int p2), .val (.int p3), .val (.int (3 : Int32)), .val (.ref w4), .val (.int (1 : Int32)), .val (.int (1 : Int32)), .unset, .unset, .unset, .unset] [(.int (255 : Int32))]))
      refine own_st (fun t k => XS.istore X14.here hx rfl (hb hby at_55) rfl (l' := #[.val (.int p1), .val (.int p2), .val (.int p3), .val (.int (3 : Int32)), .val (.ref w4), .val (.int (1 : Int32)), .val (.int (1 : Int32)), .val (.int (255 : Int32)), .unset, .unset, .unset]) rfl k) ?_
      show own_Go p e below K (T14.setTop (mkF m 57 #[.val (.int p1), .val (.int p2), .val (.int p3), .val (.int (3 : Int32)), .val (.ref w4), .val (.int (1 : Int32)), .val (.int (1 : Int32)), .val (.int (255 : Int32)), .unset, .unset, .unset] []))
      refine own_st (fun t k => XS.iload X14.here hx rfl (hb hby at_57) rfl k) ?_
      show own_Go p e below K (T14.setTop (mkF m 59 #[.val (.int p1), .val (.int p2), .val (.int p3), .val (.int (3 : Int32)), .val (.ref w4), .val (.int (1 : Int32)), .val (.int (1 : Int32)), .val (.int (255 : Int32)), .unset, .unset, .unset] [(.int (1 : Int32))]))
      refine own_st (fun t k => XS.iconst X14.here hx rfl (hb hby at_59) k) ?_
      show own_Go p e below K (T14.setTop (mkF m 60 #[.val (.int p1), .val (.int p2), .val (.int p3), .val (.int (3 : Int32)), .val (.ref w4), .val (.int (1 : Int32)), .val (.int (1 : Int32)), .val (.int (255 : Int32)), .unset, .unset, .unset] [(.int (1 : Int32)), (.int (1 : Int32))]))
      refine own_st (fun t k => XS.icmpNo X14.here hx rfl (hb hby at_60) rfl (teq (by decide : (1 : Int32) = (1 : Int32))).2 k) ?_
      show own_Go p e below K (T14.setTop (mkF m 63 #[.val (.int p1), .val (.int p2), .val (.int p3), .val (.int (3 : Int32)), .val (.ref w4), .val (.int (1 : Int32)), .val (.int (1 : Int32)), .val (.int (255 : Int32)), .unset, .unset, .unset] []))
      refine own_st (fun t k => XS.sipush X14.here hx rfl (hb hby at_63) k) ?_
      show own_Go p e below K (T14.setTop (mkF m 66 #[.val (.int p1), .val (.int p2), .val (.int p3), .val (.int (3 : Int32)), .val (.ref w4), .val (.int (1 : Int32)), .val (.int (1 : Int32)), .val (.int (255 : Int32)), .unset, .unset, .unset] [(.int (128 : Int32))]))
      refine own_st (fun t k => XS.goto X14.here hx rfl (pc0 := 66) (pc' := 71) rfl (hb hby at_66) (by decide) (by decide) k) ?_
      show own_Go p e below K (T14.setTop (mkF m 71 #[.val (.int p1), .val (.int p2), .val (.int p3), .val (.int (3 : Int32)), .val (.ref w4), .val (.int (1 : Int32)), .val (.int (1 : Int32)), .val (.int (255 : Int32)), .unset, .unset, .unset] [(.int (128 : Int32))]))
      refine own_st (fun t k => XS.istore X14.here hx rfl (hb hby at_71) rfl (l' := #[.val (.int p1), .val (.int p2), .val (.int p3), .val (.int (3 : Int32)), .val (.ref w4), .val (.int (1 : Int32)), .val (.int (1 : Int32)), .val (.int (255 : Int32)), .val (.int (128 : Int32)), .unset, .unset]) rfl k) ?_
      show own_Go p e below K (T14.setTop (mkF m 73 #[.val (.int p1), .val (.int p2), .val (.int p3), .val (.int (3 : Int32)), .val (.ref w4), .val (.int (1 : Int32)), .val (.int (1 : Int32)), .val (.int (255 : Int32)), .val (.int (128 : Int32)), .unset, .unset] []))
      refine own_st (fun t k => XS.iloadN X14.here hx rfl (hb hby at_73) rfl k) ?_
      show own_Go p e below K (T14.setTop (mkF m 74 #[.val (.int p1), .val (.int p2), .val (.int p3), .val (.int (3 : Int32)), .val (.ref w4), .val (.int (1 : Int32)), .val (.int (1 : Int32)), .val (.int (255 : Int32)), .val (.int (128 : Int32)), .unset, .unset] [(.int p3)]))
      refine own_st (fun t k => XS.iload X14.here hx rfl (hb hby at_74) rfl k) ?_
      show own_Go p e below K (T14.setTop (mkF m 76 #[.val (.int p1), .val (.int p2), .val (.int p3), .val (.int (3 : Int32)), .val (.ref w4), .val (.int (1 : Int32)), .val (.int (1 : Int32)), .val (.int (255 : Int32)), .val (.int (128 : Int32)), .unset, .unset] [(.int (255 : Int32)), (.int p3)]))
      refine own_st (fun t k => XS.iand X14.here hx rfl (hb hby at_76) rfl k) ?_
      show own_Go p e below K (T14.setTop (mkF m 77 #[.val (.int p1), .val (.int p2), .val (.int p3), .val (.int (3 : Int32)), .val (.ref w4), .val (.int (1 : Int32)), .val (.int (1 : Int32)), .val (.int (255 : Int32)), .val (.int (128 : Int32)), .unset, .unset] [(.int (p3 &&& (255 : Int32)))]))
      generalize hru : (p3 &&& (255 : Int32)) = ru
      show own_Go p e below K (T14.setTop (mkF m 77 #[.val (.int p1), .val (.int p2), .val (.int p3), .val (.int (3 : Int32)), .val (.ref w4), .val (.int (1 : Int32)), .val (.int (1 : Int32)), .val (.int (255 : Int32)), .val (.int (128 : Int32)), .unset, .unset] [(.int ru)]))
      refine own_st (fun t k => XS.istore X14.here hx rfl (hb hby at_77) rfl (l' := #[.val (.int p1), .val (.int p2), .val (.int p3), .val (.int (3 : Int32)), .val (.ref w4), .val (.int (1 : Int32)), .val (.int (1 : Int32)), .val (.int (255 : Int32)), .val (.int (128 : Int32)), .val (.int ru), .unset]) rfl k) ?_
      show own_Go p e below K (T14.setTop (mkF m 79 #[.val (.int p1), .val (.int p2), .val (.int p3), .val (.int (3 : Int32)), .val (.ref w4), .val (.int (1 : Int32)), .val (.int (1 : Int32)), .val (.int (255 : Int32)), .val (.int (128 : Int32)), .val (.int ru), .unset] []))
      refine own_st (fun t k => XS.iload X14.here hx rfl (hb hby at_79) rfl k) ?_
      show own_Go p e below K (T14.setTop (mkF m 81 #[.val (.int p1), .val (.int p2), .val (.int p3), .val (.int (3 : Int32)), .val (.ref w4), .val (.int (1 : Int32)), .val (.int (1 : Int32)), .val (.int (255 : Int32)), .val (.int (128 : Int32)), .val (.int ru), .unset] [(.int (1 : Int32))]))
      refine own_st (fun t k => XS.ifNo X14.here hx rfl (hb hby at_81) rfl ((if0 _ _).trans (feq (by decide : ¬ ((1 : Int32) = (0 : Int32)))).1) k) ?_
      show own_Go p e below K (T14.setTop (mkF m 84 #[.val (.int p1), .val (.int p2), .val (.int p3), .val (.int (3 : Int32)), .val (.ref w4), .val (.int (1 : Int32)), .val (.int (1 : Int32)), .val (.int (255 : Int32)), .val (.int (128 : Int32)), .val (.int ru), .unset] []))
      refine own_st (fun t k => XS.iload X14.here hx rfl (hb hby at_84) rfl k) ?_
      show own_Go p e below K (T14.setTop (mkF m 86 #[.val (.int p1), .val (.int p2), .val (.int p3), .val (.int (3 : Int32)), .val (.ref w4), .val (.int (1 : Int32)), .val (.int (1 : Int32)), .val (.int (255 : Int32)), .val (.int (128 : Int32)), .val (.int ru), .unset] [(.int ru)]))
      refine own_st (fun t k => XS.iload X14.here hx rfl (hb hby at_86) rfl k) ?_
      show own_Go p e below K (T14.setTop (mkF m 88 #[.val (.int p1), .val (.int p2), .val (.int p3), .val (.int (3 : Int32)), .val (.ref w4), .val (.int (1 : Int32)), .val (.int (1 : Int32)), .val (.int (255 : Int32)), .val (.int (128 : Int32)), .val (.int ru), .unset] [(.int (128 : Int32)), (.int ru)]))
      by_cases hc88 : ru < (128 : Int32)
      · refine own_st (fun t k => XS.icmpYes X14.here hx rfl (pc0 := 88) (pc' := 103) rfl (hb hby at_88) rfl (tlt hc88).1 (by decide) (by decide) k) ?_
        show own_Go p e below K (T14.setTop (mkF m 103 #[.val (.int p1), .val (.int p2), .val (.int p3), .val (.int (3 : Int32)), .val (.ref w4), .val (.int (1 : Int32)), .val (.int (1 : Int32)), .val (.int (255 : Int32)), .val (.int (128 : Int32)), .val (.int ru), .unset] []))
        refine own_st (fun t k => XS.iload X14.here hx rfl (hb hby at_103) rfl k) ?_
        show own_Go p e below K (T14.setTop (mkF m 105 #[.val (.int p1), .val (.int p2), .val (.int p3), .val (.int (3 : Int32)), .val (.ref w4), .val (.int (1 : Int32)), .val (.int (1 : Int32)), .val (.int (255 : Int32)), .val (.int (128 : Int32)), .val (.int ru), .unset] [(.int ru)]))
        refine own_st (fun t k => XS.istore X14.here hx rfl (hb hby at_105) rfl (l' := #[.val (.int p1), .val (.int p2), .val (.int p3), .val (.int (3 : Int32)), .val (.ref w4), .val (.int (1 : Int32)), .val (.int (1 : Int32)), .val (.int (255 : Int32)), .val (.int (128 : Int32)), .val (.int ru), .val (.int ru)]) rfl k) ?_
        show own_Go p e below K (T14.setTop (mkF m 107 #[.val (.int p1), .val (.int p2), .val (.int p3), .val (.int (3 : Int32)), .val (.ref w4), .val (.int (1 : Int32)), .val (.int (1 : Int32)), .val (.int (255 : Int32)), .val (.int (128 : Int32)), .val (.int ru), .val (.int ru)] []))
        refine own_st (fun t k => XS.aload X14.here hx rfl (hb hby at_107) rfl rfl k) ?_
        show own_Go p e below K (T14.setTop (mkF m 109 #[.val (.int p1), .val (.int p2), .val (.int p3), .val (.int (3 : Int32)), .val (.ref w4), .val (.int (1 : Int32)), .val (.int (1 : Int32)), .val (.int (255 : Int32)), .val (.int (128 : Int32)), .val (.int ru), .val (.int ru)] [(.ref w4)]))
        refine own_st (fun t k => XS.iload X14.here hx rfl (hb hby at_109) rfl k) ?_
        show own_Go p e below K (T14.setTop (mkF m 111 #[.val (.int p1), .val (.int p2), .val (.int p3), .val (.int (3 : Int32)), .val (.ref w4), .val (.int (1 : Int32)), .val (.int (1 : Int32)), .val (.int (255 : Int32)), .val (.int (128 : Int32)), .val (.int ru), .val (.int ru)] [(.int ru), (.ref w4)]))
        refine own_st (fun t k => XS.iload X14.here hx rfl (hb hby at_111) rfl k) ?_
        show own_Go p e below K (T14.setTop (mkF m 113 #[.val (.int p1), .val (.int p2), .val (.int p3), .val (.int (3 : Int32)), .val (.ref w4), .val (.int (1 : Int32)), .val (.int (1 : Int32)), .val (.int (255 : Int32)), .val (.int (128 : Int32)), .val (.int ru), .val (.int ru)] [(.int (1 : Int32)), (.int ru), (.ref w4)]))
        obtain ⟨cq15, kq15, qv15a, qv15b, qv15c⟩ := isOf hZ e14 P8
        obtain ⟨_, _, ⟨T15, L15, k15, n15⟩, -, X15, ⟨Lc15, hQ15, l15, y15, z15⟩, st15⟩ := X14.virtualBack hx (y := (⟨"com/example/micrologue/micrologue/OperandKind", "value", "(II)I"⟩ : MethodName)) (z := (⟨"com/example/micrologue/micrologue/OperandKind", "value", "(II)I"⟩ : MethodName)) hown (mvT hZ (hw _ (List.mem_of_getElem? (i := 10) rfl))) (mvT hZ (hw _ (List.mem_of_getElem? (i := 11) rfl))) (notFace_of_selects (args := #[]) (mvT hZ (hw _ (List.mem_of_getElem? (i := 13) rfl)))) (mvT hZ (hw _ (List.mem_of_getElem? (i := 13) rfl))) (mvT hZ (hw _ (List.mem_of_getElem? (i := 12) rfl))) (by decide) (backOf (W := 0) (rm2 l Z a0 hw [] w4 ru (1 : Int32) ((1 : Int32)) h0 n0 Z0 P13) hZ (hw _ (List.mem_of_getElem? (i := 14) rfl)) (hw _ (List.mem_of_getElem? (i := 6) rfl)) (by decide) (by decide)) qv15a qv15c (g := (mkF m 113 #[.val (.int p1), .val (.int p2), .val (.int p3), .val (.int (3 : Int32)), .val (.ref w4), .val (.int (1 : Int32)), .val (.int (1 : Int32)), .val (.int (255 : Int32)), .val (.int (128 : Int32)), .val (.int ru), .val (.int ru)] [(.int (1 : Int32)), (.int ru), (.ref w4)])) rfl (by rw [hml]; rfl) (Steps.refl _) (argsL := [(.int ru), (.int (1 : Int32))]) (rest := []) (lenOf pd_0_1 rfl) rfl (by show 2 * 0 + _ ≤ _; exact Nat.le_of_eq rfl) (hb hby at_113) (fun _ _ => ⟨rfl, e14, (by decide : 0 + 0 ≤ _), (by decide : 0 + 0 ≤ _)⟩)
        dsimp only [Pt.U, Pt.locs, Pt.cells, Pt.slots] at X15 l15 y15 z15 st15 hQ15
        subst l15 y15 z15
        obtain ⟨r15, rfl, hr15, N15q, e15⟩ := hQ15
        have N15 := Fr.app N14 N15q
        refine own_tr st15 ?_
        show own_Go p e below K (T15.setTop (mkF m 116 #[.val (.int p1), .val (.int p2), .val (.int p3), .val (.int (3 : Int32)), .val (.ref w4), .val (.int (1 : Int32)), .val (.int (1 : Int32)), .val (.int (255 : Int32)), .val (.int (128 : Int32)), .val (.int ru), .val (.int ru)] [(.int r15)]))
        refine own_st (fun t k => XS.iload X15.here hx rfl (hb hby at_116) rfl k) ?_
        show own_Go p e below K (T15.setTop (mkF m 118 #[.val (.int p1), .val (.int p2), .val (.int p3), .val (.int (3 : Int32)), .val (.ref w4), .val (.int (1 : Int32)), .val (.int (1 : Int32)), .val (.int (255 : Int32)), .val (.int (128 : Int32)), .val (.int ru), .val (.int ru)] [(.int ru), (.int r15)]))
        refine own_st (fun t k => XS.icmpNo X15.here hx rfl (hb hby at_118) rfl (teq (hr15.trans (own_a1 hru hc88) : r15 = ru)).2 k) ?_
        show own_Go p e below K (T15.setTop (mkF m 121 #[.val (.int p1), .val (.int p2), .val (.int p3), .val (.int (3 : Int32)), .val (.ref w4), .val (.int (1 : Int32)), .val (.int (1 : Int32)), .val (.int (255 : Int32)), .val (.int (128 : Int32)), .val (.int ru), .val (.int ru)] []))
        refine own_st (fun t k => XS.iconst X15.here hx rfl (hb hby at_121) k) ?_
        show own_Go p e below K (T15.setTop (mkF m 122 #[.val (.int p1), .val (.int p2), .val (.int p3), .val (.int (3 : Int32)), .val (.ref w4), .val (.int (1 : Int32)), .val (.int (1 : Int32)), .val (.int (255 : Int32)), .val (.int (128 : Int32)), .val (.int ru), .val (.int ru)] [(.int (1 : Int32))]))
        refine own_st (fun t k => XS.goto X15.here hx rfl (pc0 := 122) (pc' := 126) rfl (hb hby at_122) (by decide) (by decide) k) ?_
        show own_Go p e below K (T15.setTop (mkF m 126 #[.val (.int p1), .val (.int p2), .val (.int p3), .val (.int (3 : Int32)), .val (.ref w4), .val (.int (1 : Int32)), .val (.int (1 : Int32)), .val (.int (255 : Int32)), .val (.int (128 : Int32)), .val (.int ru), .val (.int ru)] [(.int (1 : Int32))]))
        obtain ⟨fs, hr, hrun, hended, hW, hsame⟩ := X15.leave (v := some (.int (nar .boolean (1 : Int32)))) (fun h => by rw [Bd.returns] at h; cases h)
        refine ⟨_, retN X15 hx (t := .boolean) Bd.returns (by simp) (hb hby at_126) hr, fin _ _ _ hrun hended ?_ ⟨⟨_, rfl⟩, hW, hsame.mono (by decide) (by decide)⟩⟩
        show Q0 Z p1 p2 p3 w1 w2 w3 w4 w5 h0 n0 _ T15.heap _
        rw [e15]
        exact ⟨rfl, N15⟩
      refine own_st (fun t k => XS.icmpNo X14.here hx rfl (hb hby at_88) rfl (flt hc88).1 k) ?_
      show own_Go p e below K (T14.setTop (mkF m 91 #[.val (.int p1), .val (.int p2), .val (.int p3), .val (.int (3 : Int32)), .val (.ref w4), .val (.int (1 : Int32)), .val (.int (1 : Int32)), .val (.int (255 : Int32)), .val (.int (128 : Int32)), .val (.int ru), .unset] []))
      refine own_st (fun t k => XS.iload X14.here hx rfl (hb hby at_91) rfl k) ?_
      show own_Go p e below K (T14.setTop (mkF m 93 #[.val (.int p1), .val (.int p2), .val (.int p3), .val (.int (3 : Int32)), .val (.ref w4), .val (.int (1 : Int32)), .val (.int (1 : Int32)), .val (.int (255 : Int32)), .val (.int (128 : Int32)), .val (.int ru), .unset] [(.int ru)]))
      refine own_st (fun t k => XS.iload X14.here hx rfl (hb hby at_93) rfl k) ?_
      show own_Go p e below K (T14.setTop (mkF m 95 #[.val (.int p1), .val (.int p2), .val (.int p3), .val (.int (3 : Int32)), .val (.ref w4), .val (.int (1 : Int32)), .val (.int (1 : Int32)), .val (.int (255 : Int32)), .val (.int (128 : Int32)), .val (.int ru), .unset] [(.int (255 : Int32)), (.int ru)]))
      refine own_st (fun t k => XS.iconst X14.here hx rfl (hb hby at_95) k) ?_
      show own_Go p e below K (T14.setTop (mkF m 96 #[.val (.int p1), .val (.int p2), .val (.int p3), .val (.int (3 : Int32)), .val (.ref w4), .val (.int (1 : Int32)), .val (.int (1 : Int32)), .val (.int (255 : Int32)), .val (.int (128 : Int32)), .val (.int ru), .unset] [(.int (1 : Int32)), (.int (255 : Int32)), (.int ru)]))
      refine own_st (fun t k => XS.iadd X14.here hx rfl (hb hby at_96) rfl k) ?_
      show own_Go p e below K (T14.setTop (mkF m 97 #[.val (.int p1), .val (.int p2), .val (.int p3), .val (.int (3 : Int32)), .val (.ref w4), .val (.int (1 : Int32)), .val (.int (1 : Int32)), .val (.int (255 : Int32)), .val (.int (128 : Int32)), .val (.int ru), .unset] [(.int ((255 : Int32) + (1 : Int32))), (.int ru)]))
      rw [show ((255 : Int32) + (1 : Int32)) = (256 : Int32) from by decide]
      show own_Go p e below K (T14.setTop (mkF m 97 #[.val (.int p1), .val (.int p2), .val (.int p3), .val (.int (3 : Int32)), .val (.ref w4), .val (.int (1 : Int32)), .val (.int (1 : Int32)), .val (.int (255 : Int32)), .val (.int (128 : Int32)), .val (.int ru), .unset] [(.int (256 : Int32)), (.int ru)]))
      refine own_st (fun t k => XS.isub X14.here hx rfl (hb hby at_97) rfl k) ?_
      show own_Go p e below K (T14.setTop (mkF m 98 #[.val (.int p1), .val (.int p2), .val (.int p3), .val (.int (3 : Int32)), .val (.ref w4), .val (.int (1 : Int32)), .val (.int (1 : Int32)), .val (.int (255 : Int32)), .val (.int (128 : Int32)), .val (.int ru), .unset] [(.int (ru - (256 : Int32)))]))
      refine own_st (fun t k => XS.istore X14.here hx rfl (hb hby at_98) rfl (l' := #[.val (.int p1), .val (.int p2), .val (.int p3), .val (.int (3 : Int32)), .val (.ref w4), .val (.int (1 : Int32)), .val (.int (1 : Int32)), .val (.int (255 : Int32)), .val (.int (128 : Int32)), .val (.int ru), .val (.int (ru - (256 : Int32)))]) rfl k) ?_
      show own_Go p e below K (T14.setTop (mkF m 100 #[.val (.int p1), .val (.int p2), .val (.int p3), .val (.int (3 : Int32)), .val (.ref w4), .val (.int (1 : Int32)), .val (.int (1 : Int32)), .val (.int (255 : Int32)), .val (.int (128 : Int32)), .val (.int ru), .val (.int (ru - (256 : Int32)))] []))
      refine own_st (fun t k => XS.goto X14.here hx rfl (pc0 := 100) (pc' := 107) rfl (hb hby at_100) (by decide) (by decide) k) ?_
      show own_Go p e below K (T14.setTop (mkF m 107 #[.val (.int p1), .val (.int p2), .val (.int p3), .val (.int (3 : Int32)), .val (.ref w4), .val (.int (1 : Int32)), .val (.int (1 : Int32)), .val (.int (255 : Int32)), .val (.int (128 : Int32)), .val (.int ru), .val (.int (ru - (256 : Int32)))] []))
      refine own_st (fun t k => XS.aload X14.here hx rfl (hb hby at_107) rfl rfl k) ?_
      show own_Go p e below K (T14.setTop (mkF m 109 #[.val (.int p1), .val (.int p2), .val (.int p3), .val (.int (3 : Int32)), .val (.ref w4), .val (.int (1 : Int32)), .val (.int (1 : Int32)), .val (.int (255 : Int32)), .val (.int (128 : Int32)), .val (.int ru), .val (.int (ru - (256 : Int32)))] [(.ref w4)]))
      refine own_st (fun t k => XS.iload X14.here hx rfl (hb hby at_109) rfl k) ?_
      show own_Go p e below K (T14.setTop (mkF m 111 #[.val (.int p1), .val (.int p2), .val (.int p3), .val (.int (3 : Int32)), .val (.ref w4), .val (.int (1 : Int32)), .val (.int (1 : Int32)), .val (.int (255 : Int32)), .val (.int (128 : Int32)), .val (.int ru), .val (.int (ru - (256 : Int32)))] [(.int ru), (.ref w4)]))
      refine own_st (fun t k => XS.iload X14.here hx rfl (hb hby at_111) rfl k) ?_
      show own_Go p e below K (T14.setTop (mkF m 113 #[.val (.int p1), .val (.int p2), .val (.int p3), .val (.int (3 : Int32)), .val (.ref w4), .val (.int (1 : Int32)), .val (.int (1 : Int32)), .val (.int (255 : Int32)), .val (.int (128 : Int32)), .val (.int ru), .val (.int (ru - (256 : Int32)))] [(.int (1 : Int32)), (.int ru), (.ref w4)]))
      obtain ⟨cq16, kq16, qv16a, qv16b, qv16c⟩ := isOf hZ e14 P8
      obtain ⟨_, _, ⟨T16, L16, k16, n16⟩, -, X16, ⟨Lc16, hQ16, l16, y16, z16⟩, st16⟩ := X14.virtualBack hx (y := (⟨"com/example/micrologue/micrologue/OperandKind", "value", "(II)I"⟩ : MethodName)) (z := (⟨"com/example/micrologue/micrologue/OperandKind", "value", "(II)I"⟩ : MethodName)) hown (mvT hZ (hw _ (List.mem_of_getElem? (i := 10) rfl))) (mvT hZ (hw _ (List.mem_of_getElem? (i := 11) rfl))) (notFace_of_selects (args := #[]) (mvT hZ (hw _ (List.mem_of_getElem? (i := 13) rfl)))) (mvT hZ (hw _ (List.mem_of_getElem? (i := 13) rfl))) (mvT hZ (hw _ (List.mem_of_getElem? (i := 12) rfl))) (by decide) (backOf (W := 0) (rm2 l Z a0 hw [] w4 ru (1 : Int32) ((1 : Int32)) h0 n0 Z0 P13) hZ (hw _ (List.mem_of_getElem? (i := 14) rfl)) (hw _ (List.mem_of_getElem? (i := 6) rfl)) (by decide) (by decide)) qv16a qv16c (g := (mkF m 113 #[.val (.int p1), .val (.int p2), .val (.int p3), .val (.int (3 : Int32)), .val (.ref w4), .val (.int (1 : Int32)), .val (.int (1 : Int32)), .val (.int (255 : Int32)), .val (.int (128 : Int32)), .val (.int ru), .val (.int (ru - (256 : Int32)))] [(.int (1 : Int32)), (.int ru), (.ref w4)])) rfl (by rw [hml]; rfl) (Steps.refl _) (argsL := [(.int ru), (.int (1 : Int32))]) (rest := []) (lenOf pd_0_1 rfl) rfl (by show 2 * 0 + _ ≤ _; exact Nat.le_of_eq rfl) (hb hby at_113) (fun _ _ => ⟨rfl, e14, (by decide : 0 + 0 ≤ _), (by decide : 0 + 0 ≤ _)⟩)
      dsimp only [Pt.U, Pt.locs, Pt.cells, Pt.slots] at X16 l16 y16 z16 st16 hQ16
      subst l16 y16 z16
      obtain ⟨r16, rfl, hr16, N16q, e16⟩ := hQ16
      have N16 := Fr.app N14 N16q
      refine own_tr st16 ?_
      show own_Go p e below K (T16.setTop (mkF m 116 #[.val (.int p1), .val (.int p2), .val (.int p3), .val (.int (3 : Int32)), .val (.ref w4), .val (.int (1 : Int32)), .val (.int (1 : Int32)), .val (.int (255 : Int32)), .val (.int (128 : Int32)), .val (.int ru), .val (.int (ru - (256 : Int32)))] [(.int r16)]))
      refine own_st (fun t k => XS.iload X16.here hx rfl (hb hby at_116) rfl k) ?_
      show own_Go p e below K (T16.setTop (mkF m 118 #[.val (.int p1), .val (.int p2), .val (.int p3), .val (.int (3 : Int32)), .val (.ref w4), .val (.int (1 : Int32)), .val (.int (1 : Int32)), .val (.int (255 : Int32)), .val (.int (128 : Int32)), .val (.int ru), .val (.int (ru - (256 : Int32)))] [(.int (ru - (256 : Int32))), (.int r16)]))
      refine own_st (fun t k => XS.icmpNo X16.here hx rfl (hb hby at_118) rfl (teq (hr16.trans (own_b1 hru hc88) : r16 = (ru - (256 : Int32)))).2 k) ?_
      show own_Go p e below K (T16.setTop (mkF m 121 #[.val (.int p1), .val (.int p2), .val (.int p3), .val (.int (3 : Int32)), .val (.ref w4), .val (.int (1 : Int32)), .val (.int (1 : Int32)), .val (.int (255 : Int32)), .val (.int (128 : Int32)), .val (.int ru), .val (.int (ru - (256 : Int32)))] []))
      refine own_st (fun t k => XS.iconst X16.here hx rfl (hb hby at_121) k) ?_
      show own_Go p e below K (T16.setTop (mkF m 122 #[.val (.int p1), .val (.int p2), .val (.int p3), .val (.int (3 : Int32)), .val (.ref w4), .val (.int (1 : Int32)), .val (.int (1 : Int32)), .val (.int (255 : Int32)), .val (.int (128 : Int32)), .val (.int ru), .val (.int (ru - (256 : Int32)))] [(.int (1 : Int32))]))
      refine own_st (fun t k => XS.goto X16.here hx rfl (pc0 := 122) (pc' := 126) rfl (hb hby at_122) (by decide) (by decide) k) ?_
      show own_Go p e below K (T16.setTop (mkF m 126 #[.val (.int p1), .val (.int p2), .val (.int p3), .val (.int (3 : Int32)), .val (.ref w4), .val (.int (1 : Int32)), .val (.int (1 : Int32)), .val (.int (255 : Int32)), .val (.int (128 : Int32)), .val (.int ru), .val (.int (ru - (256 : Int32)))] [(.int (1 : Int32))]))
      obtain ⟨fs, hr, hrun, hended, hW, hsame⟩ := X16.leave (v := some (.int (nar .boolean (1 : Int32)))) (fun h => by rw [Bd.returns] at h; cases h)
      refine ⟨_, retN X16 hx (t := .boolean) Bd.returns (by simp) (hb hby at_126) hr, fin _ _ _ hrun hended ?_ ⟨⟨_, rfl⟩, hW, hsame.mono (by decide) (by decide)⟩⟩
      show Q0 Z p1 p2 p3 w1 w2 w3 w4 w5 h0 n0 _ T16.heap _
      rw [e16]
      exact ⟨rfl, N16⟩
    subst hs
    show own_Go p e below K (T14.setTop (mkF m 39 #[.val (.int p1), .val (.int p2), .val (.int p3), .val (.int (3 : Int32)), .val (.ref w4), .val (.int (1 : Int32)), .unset, .unset, .unset, .unset, .unset] [(.int (2 : Int32))]))
    refine own_st (fun t k => XS.istore X14.here hx rfl (hb hby at_39) rfl (l' := #[.val (.int p1), .val (.int p2), .val (.int p3), .val (.int (3 : Int32)), .val (.ref w4), .val (.int (1 : Int32)), .val (.int (2 : Int32)), .unset, .unset, .unset, .unset]) rfl k) ?_
    show own_Go p e below K (T14.setTop (mkF m 41 #[.val (.int p1), .val (.int p2), .val (.int p3), .val (.int (3 : Int32)), .val (.ref w4), .val (.int (1 : Int32)), .val (.int (2 : Int32)), .unset, .unset, .unset, .unset] []))
    refine own_st (fun t k => XS.iload X14.here hx rfl (hb hby at_41) rfl k) ?_
    show own_Go p e below K (T14.setTop (mkF m 43 #[.val (.int p1), .val (.int p2), .val (.int p3), .val (.int (3 : Int32)), .val (.ref w4), .val (.int (1 : Int32)), .val (.int (2 : Int32)), .unset, .unset, .unset, .unset] [(.int (2 : Int32))]))
    refine own_st (fun t k => XS.iconst X14.here hx rfl (hb hby at_43) k) ?_
    show own_Go p e below K (T14.setTop (mkF m 44 #[.val (.int p1), .val (.int p2), .val (.int p3), .val (.int (3 : Int32)), .val (.ref w4), .val (.int (1 : Int32)), .val (.int (2 : Int32)), .unset, .unset, .unset, .unset] [(.int (1 : Int32)), (.int (2 : Int32))]))
    refine own_st (fun t k => XS.icmpYes X14.here hx rfl (pc0 := 44) (pc' := 53) rfl (hb hby at_44) rfl (feq (by decide : ¬ ((2 : Int32) = (1 : Int32)))).2 (by decide) (by decide) k) ?_
    show own_Go p e below K (T14.setTop (mkF m 53 #[.val (.int p1), .val (.int p2), .val (.int p3), .val (.int (3 : Int32)), .val (.ref w4), .val (.int (1 : Int32)), .val (.int (2 : Int32)), .unset, .unset, .unset, .unset] []))
    refine own_st (X14.ldcInt hx hown (mvT hZ (hw _ (List.mem_of_getElem? (i := 8) rfl))) (g := (mkF m 53 #[.val (.int p1), .val (.int p2), .val (.int p3), .val (.int (3 : Int32)), .val (.ref w4), .val (.int (1 : Int32)), .val (.int (2 : Int32)), .unset, .unset, .unset, .unset] [])) rfl (hb hby at_53)) ?_
    show own_Go p e below K (T14.setTop (mkF m 55 #[.val (.int p1), .val (.int p2), .val (.int p3), .val (.int (3 : Int32)), .val (.ref w4), .val (.int (1 : Int32)), .val (.int (2 : Int32)), .unset, .unset, .unset, .unset] [(.int (65535 : Int32))]))
    refine own_st (fun t k => XS.istore X14.here hx rfl (hb hby at_55) rfl (l' := #[.val (.int p1), .val (.int p2), .val (.int p3), .val (.int (3 : Int32)), .val (.ref w4), .val (.int (1 : Int32)), .val (.int (2 : Int32)), .val (.int (65535 : Int32)), .unset, .unset, .unset]) rfl k) ?_
    show own_Go p e below K (T14.setTop (mkF m 57 #[.val (.int p1), .val (.int p2), .val (.int p3), .val (.int (3 : Int32)), .val (.ref w4), .val (.int (1 : Int32)), .val (.int (2 : Int32)), .val (.int (65535 : Int32)), .unset, .unset, .unset] []))
    refine own_st (fun t k => XS.iload X14.here hx rfl (hb hby at_57) rfl k) ?_
    show own_Go p e below K (T14.setTop (mkF m 59 #[.val (.int p1), .val (.int p2), .val (.int p3), .val (.int (3 : Int32)), .val (.ref w4), .val (.int (1 : Int32)), .val (.int (2 : Int32)), .val (.int (65535 : Int32)), .unset, .unset, .unset] [(.int (2 : Int32))]))
    refine own_st (fun t k => XS.iconst X14.here hx rfl (hb hby at_59) k) ?_
    show own_Go p e below K (T14.setTop (mkF m 60 #[.val (.int p1), .val (.int p2), .val (.int p3), .val (.int (3 : Int32)), .val (.ref w4), .val (.int (1 : Int32)), .val (.int (2 : Int32)), .val (.int (65535 : Int32)), .unset, .unset, .unset] [(.int (1 : Int32)), (.int (2 : Int32))]))
    refine own_st (fun t k => XS.icmpYes X14.here hx rfl (pc0 := 60) (pc' := 69) rfl (hb hby at_60) rfl (feq (by decide : ¬ ((2 : Int32) = (1 : Int32)))).2 (by decide) (by decide) k) ?_
    show own_Go p e below K (T14.setTop (mkF m 69 #[.val (.int p1), .val (.int p2), .val (.int p3), .val (.int (3 : Int32)), .val (.ref w4), .val (.int (1 : Int32)), .val (.int (2 : Int32)), .val (.int (65535 : Int32)), .unset, .unset, .unset] []))
    refine own_st (X14.ldcInt hx hown (mvT hZ (hw _ (List.mem_of_getElem? (i := 9) rfl))) (g := (mkF m 69 #[.val (.int p1), .val (.int p2), .val (.int p3), .val (.int (3 : Int32)), .val (.ref w4), .val (.int (1 : Int32)), .val (.int (2 : Int32)), .val (.int (65535 : Int32)), .unset, .unset, .unset] [])) rfl (hb hby at_69)) ?_
    show own_Go p e below K (T14.setTop (mkF m 71 #[.val (.int p1), .val (.int p2), .val (.int p3), .val (.int (3 : Int32)), .val (.ref w4), .val (.int (1 : Int32)), .val (.int (2 : Int32)), .val (.int (65535 : Int32)), .unset, .unset, .unset] [(.int (32768 : Int32))]))
    refine own_st (fun t k => XS.istore X14.here hx rfl (hb hby at_71) rfl (l' := #[.val (.int p1), .val (.int p2), .val (.int p3), .val (.int (3 : Int32)), .val (.ref w4), .val (.int (1 : Int32)), .val (.int (2 : Int32)), .val (.int (65535 : Int32)), .val (.int (32768 : Int32)), .unset, .unset]) rfl k) ?_
    show own_Go p e below K (T14.setTop (mkF m 73 #[.val (.int p1), .val (.int p2), .val (.int p3), .val (.int (3 : Int32)), .val (.ref w4), .val (.int (1 : Int32)), .val (.int (2 : Int32)), .val (.int (65535 : Int32)), .val (.int (32768 : Int32)), .unset, .unset] []))
    refine own_st (fun t k => XS.iloadN X14.here hx rfl (hb hby at_73) rfl k) ?_
    show own_Go p e below K (T14.setTop (mkF m 74 #[.val (.int p1), .val (.int p2), .val (.int p3), .val (.int (3 : Int32)), .val (.ref w4), .val (.int (1 : Int32)), .val (.int (2 : Int32)), .val (.int (65535 : Int32)), .val (.int (32768 : Int32)), .unset, .unset] [(.int p3)]))
    refine own_st (fun t k => XS.iload X14.here hx rfl (hb hby at_74) rfl k) ?_
    show own_Go p e below K (T14.setTop (mkF m 76 #[.val (.int p1), .val (.int p2), .val (.int p3), .val (.int (3 : Int32)), .val (.ref w4), .val (.int (1 : Int32)), .val (.int (2 : Int32)), .val (.int (65535 : Int32)), .val (.int (32768 : Int32)), .unset, .unset] [(.int (65535 : Int32)), (.int p3)]))
    refine own_st (fun t k => XS.iand X14.here hx rfl (hb hby at_76) rfl k) ?_
    show own_Go p e below K (T14.setTop (mkF m 77 #[.val (.int p1), .val (.int p2), .val (.int p3), .val (.int (3 : Int32)), .val (.ref w4), .val (.int (1 : Int32)), .val (.int (2 : Int32)), .val (.int (65535 : Int32)), .val (.int (32768 : Int32)), .unset, .unset] [(.int (p3 &&& (65535 : Int32)))]))
    generalize hru : (p3 &&& (65535 : Int32)) = ru
    show own_Go p e below K (T14.setTop (mkF m 77 #[.val (.int p1), .val (.int p2), .val (.int p3), .val (.int (3 : Int32)), .val (.ref w4), .val (.int (1 : Int32)), .val (.int (2 : Int32)), .val (.int (65535 : Int32)), .val (.int (32768 : Int32)), .unset, .unset] [(.int ru)]))
    refine own_st (fun t k => XS.istore X14.here hx rfl (hb hby at_77) rfl (l' := #[.val (.int p1), .val (.int p2), .val (.int p3), .val (.int (3 : Int32)), .val (.ref w4), .val (.int (1 : Int32)), .val (.int (2 : Int32)), .val (.int (65535 : Int32)), .val (.int (32768 : Int32)), .val (.int ru), .unset]) rfl k) ?_
    show own_Go p e below K (T14.setTop (mkF m 79 #[.val (.int p1), .val (.int p2), .val (.int p3), .val (.int (3 : Int32)), .val (.ref w4), .val (.int (1 : Int32)), .val (.int (2 : Int32)), .val (.int (65535 : Int32)), .val (.int (32768 : Int32)), .val (.int ru), .unset] []))
    refine own_st (fun t k => XS.iload X14.here hx rfl (hb hby at_79) rfl k) ?_
    show own_Go p e below K (T14.setTop (mkF m 81 #[.val (.int p1), .val (.int p2), .val (.int p3), .val (.int (3 : Int32)), .val (.ref w4), .val (.int (1 : Int32)), .val (.int (2 : Int32)), .val (.int (65535 : Int32)), .val (.int (32768 : Int32)), .val (.int ru), .unset] [(.int (1 : Int32))]))
    refine own_st (fun t k => XS.ifNo X14.here hx rfl (hb hby at_81) rfl ((if0 _ _).trans (feq (by decide : ¬ ((1 : Int32) = (0 : Int32)))).1) k) ?_
    show own_Go p e below K (T14.setTop (mkF m 84 #[.val (.int p1), .val (.int p2), .val (.int p3), .val (.int (3 : Int32)), .val (.ref w4), .val (.int (1 : Int32)), .val (.int (2 : Int32)), .val (.int (65535 : Int32)), .val (.int (32768 : Int32)), .val (.int ru), .unset] []))
    refine own_st (fun t k => XS.iload X14.here hx rfl (hb hby at_84) rfl k) ?_
    show own_Go p e below K (T14.setTop (mkF m 86 #[.val (.int p1), .val (.int p2), .val (.int p3), .val (.int (3 : Int32)), .val (.ref w4), .val (.int (1 : Int32)), .val (.int (2 : Int32)), .val (.int (65535 : Int32)), .val (.int (32768 : Int32)), .val (.int ru), .unset] [(.int ru)]))
    refine own_st (fun t k => XS.iload X14.here hx rfl (hb hby at_86) rfl k) ?_
    show own_Go p e below K (T14.setTop (mkF m 88 #[.val (.int p1), .val (.int p2), .val (.int p3), .val (.int (3 : Int32)), .val (.ref w4), .val (.int (1 : Int32)), .val (.int (2 : Int32)), .val (.int (65535 : Int32)), .val (.int (32768 : Int32)), .val (.int ru), .unset] [(.int (32768 : Int32)), (.int ru)]))
    by_cases hc88 : ru < (32768 : Int32)
    · refine own_st (fun t k => XS.icmpYes X14.here hx rfl (pc0 := 88) (pc' := 103) rfl (hb hby at_88) rfl (tlt hc88).1 (by decide) (by decide) k) ?_
      show own_Go p e below K (T14.setTop (mkF m 103 #[.val (.int p1), .val (.int p2), .val (.int p3), .val (.int (3 : Int32)), .val (.ref w4), .val (.int (1 : Int32)), .val (.int (2 : Int32)), .val (.int (65535 : Int32)), .val (.int (32768 : Int32)), .val (.int ru), .unset] []))
      refine own_st (fun t k => XS.iload X14.here hx rfl (hb hby at_103) rfl k) ?_
      show own_Go p e below K (T14.setTop (mkF m 105 #[.val (.int p1), .val (.int p2), .val (.int p3), .val (.int (3 : Int32)), .val (.ref w4), .val (.int (1 : Int32)), .val (.int (2 : Int32)), .val (.int (65535 : Int32)), .val (.int (32768 : Int32)), .val (.int ru), .unset] [(.int ru)]))
      refine own_st (fun t k => XS.istore X14.here hx rfl (hb hby at_105) rfl (l' := #[.val (.int p1), .val (.int p2), .val (.int p3), .val (.int (3 : Int32)), .val (.ref w4), .val (.int (1 : Int32)), .val (.int (2 : Int32)), .val (.int (65535 : Int32)), .val (.int (32768 : Int32)), .val (.int ru), .val (.int ru)]) rfl k) ?_
      show own_Go p e below K (T14.setTop (mkF m 107 #[.val (.int p1), .val (.int p2), .val (.int p3), .val (.int (3 : Int32)), .val (.ref w4), .val (.int (1 : Int32)), .val (.int (2 : Int32)), .val (.int (65535 : Int32)), .val (.int (32768 : Int32)), .val (.int ru), .val (.int ru)] []))
      refine own_st (fun t k => XS.aload X14.here hx rfl (hb hby at_107) rfl rfl k) ?_
      show own_Go p e below K (T14.setTop (mkF m 109 #[.val (.int p1), .val (.int p2), .val (.int p3), .val (.int (3 : Int32)), .val (.ref w4), .val (.int (1 : Int32)), .val (.int (2 : Int32)), .val (.int (65535 : Int32)), .val (.int (32768 : Int32)), .val (.int ru), .val (.int ru)] [(.ref w4)]))
      refine own_st (fun t k => XS.iload X14.here hx rfl (hb hby at_109) rfl k) ?_
      show own_Go p e below K (T14.setTop (mkF m 111 #[.val (.int p1), .val (.int p2), .val (.int p3), .val (.int (3 : Int32)), .val (.ref w4), .val (.int (1 : Int32)), .val (.int (2 : Int32)), .val (.int (65535 : Int32)), .val (.int (32768 : Int32)), .val (.int ru), .val (.int ru)] [(.int ru), (.ref w4)]))
      refine own_st (fun t k => XS.iload X14.here hx rfl (hb hby at_111) rfl k) ?_
      show own_Go p e below K (T14.setTop (mkF m 113 #[.val (.int p1), .val (.int p2), .val (.int p3), .val (.int (3 : Int32)), .val (.ref w4), .val (.int (1 : Int32)), .val (.int (2 : Int32)), .val (.int (65535 : Int32)), .val (.int (32768 : Int32)), .val (.int ru), .val (.int ru)] [(.int (2 : Int32)), (.int ru), (.ref w4)]))
      obtain ⟨cq17, kq17, qv17a, qv17b, qv17c⟩ := isOf hZ e14 P8
      obtain ⟨_, _, ⟨T17, L17, k17, n17⟩, -, X17, ⟨Lc17, hQ17, l17, y17, z17⟩, st17⟩ := X14.virtualBack hx (y := (⟨"com/example/micrologue/micrologue/OperandKind", "value", "(II)I"⟩ : MethodName)) (z := (⟨"com/example/micrologue/micrologue/OperandKind", "value", "(II)I"⟩ : MethodName)) hown (mvT hZ (hw _ (List.mem_of_getElem? (i := 10) rfl))) (mvT hZ (hw _ (List.mem_of_getElem? (i := 11) rfl))) (notFace_of_selects (args := #[]) (mvT hZ (hw _ (List.mem_of_getElem? (i := 13) rfl)))) (mvT hZ (hw _ (List.mem_of_getElem? (i := 13) rfl))) (mvT hZ (hw _ (List.mem_of_getElem? (i := 12) rfl))) (by decide) (backOf (W := 0) (rm2 l Z a0 hw [] w4 ru (2 : Int32) ((1 : Int32)) h0 n0 Z0 P13) hZ (hw _ (List.mem_of_getElem? (i := 14) rfl)) (hw _ (List.mem_of_getElem? (i := 6) rfl)) (by decide) (by decide)) qv17a qv17c (g := (mkF m 113 #[.val (.int p1), .val (.int p2), .val (.int p3), .val (.int (3 : Int32)), .val (.ref w4), .val (.int (1 : Int32)), .val (.int (2 : Int32)), .val (.int (65535 : Int32)), .val (.int (32768 : Int32)), .val (.int ru), .val (.int ru)] [(.int (2 : Int32)), (.int ru), (.ref w4)])) rfl (by rw [hml]; rfl) (Steps.refl _) (argsL := [(.int ru), (.int (2 : Int32))]) (rest := []) (lenOf pd_0_1 rfl) rfl (by show 2 * 0 + _ ≤ _; exact Nat.le_of_eq rfl) (hb hby at_113) (fun _ _ => ⟨rfl, e14, (by decide : 0 + 0 ≤ _), (by decide : 0 + 0 ≤ _)⟩)
      dsimp only [Pt.U, Pt.locs, Pt.cells, Pt.slots] at X17 l17 y17 z17 st17 hQ17
      subst l17 y17 z17
      obtain ⟨r17, rfl, hr17, N17q, e17⟩ := hQ17
      have N17 := Fr.app N14 N17q
      refine own_tr st17 ?_
      show own_Go p e below K (T17.setTop (mkF m 116 #[.val (.int p1), .val (.int p2), .val (.int p3), .val (.int (3 : Int32)), .val (.ref w4), .val (.int (1 : Int32)), .val (.int (2 : Int32)), .val (.int (65535 : Int32)), .val (.int (32768 : Int32)), .val (.int ru), .val (.int ru)] [(.int r17)]))
      refine own_st (fun t k => XS.iload X17.here hx rfl (hb hby at_116) rfl k) ?_
      show own_Go p e below K (T17.setTop (mkF m 118 #[.val (.int p1), .val (.int p2), .val (.int p3), .val (.int (3 : Int32)), .val (.ref w4), .val (.int (1 : Int32)), .val (.int (2 : Int32)), .val (.int (65535 : Int32)), .val (.int (32768 : Int32)), .val (.int ru), .val (.int ru)] [(.int ru), (.int r17)]))
      refine own_st (fun t k => XS.icmpNo X17.here hx rfl (hb hby at_118) rfl (teq (hr17.trans (own_a2 hru hc88) : r17 = ru)).2 k) ?_
      show own_Go p e below K (T17.setTop (mkF m 121 #[.val (.int p1), .val (.int p2), .val (.int p3), .val (.int (3 : Int32)), .val (.ref w4), .val (.int (1 : Int32)), .val (.int (2 : Int32)), .val (.int (65535 : Int32)), .val (.int (32768 : Int32)), .val (.int ru), .val (.int ru)] []))
      refine own_st (fun t k => XS.iconst X17.here hx rfl (hb hby at_121) k) ?_
      show own_Go p e below K (T17.setTop (mkF m 122 #[.val (.int p1), .val (.int p2), .val (.int p3), .val (.int (3 : Int32)), .val (.ref w4), .val (.int (1 : Int32)), .val (.int (2 : Int32)), .val (.int (65535 : Int32)), .val (.int (32768 : Int32)), .val (.int ru), .val (.int ru)] [(.int (1 : Int32))]))
      refine own_st (fun t k => XS.goto X17.here hx rfl (pc0 := 122) (pc' := 126) rfl (hb hby at_122) (by decide) (by decide) k) ?_
      show own_Go p e below K (T17.setTop (mkF m 126 #[.val (.int p1), .val (.int p2), .val (.int p3), .val (.int (3 : Int32)), .val (.ref w4), .val (.int (1 : Int32)), .val (.int (2 : Int32)), .val (.int (65535 : Int32)), .val (.int (32768 : Int32)), .val (.int ru), .val (.int ru)] [(.int (1 : Int32))]))
      obtain ⟨fs, hr, hrun, hended, hW, hsame⟩ := X17.leave (v := some (.int (nar .boolean (1 : Int32)))) (fun h => by rw [Bd.returns] at h; cases h)
      refine ⟨_, retN X17 hx (t := .boolean) Bd.returns (by simp) (hb hby at_126) hr, fin _ _ _ hrun hended ?_ ⟨⟨_, rfl⟩, hW, hsame.mono (by decide) (by decide)⟩⟩
      show Q0 Z p1 p2 p3 w1 w2 w3 w4 w5 h0 n0 _ T17.heap _
      rw [e17]
      exact ⟨rfl, N17⟩
    refine own_st (fun t k => XS.icmpNo X14.here hx rfl (hb hby at_88) rfl (flt hc88).1 k) ?_
    show own_Go p e below K (T14.setTop (mkF m 91 #[.val (.int p1), .val (.int p2), .val (.int p3), .val (.int (3 : Int32)), .val (.ref w4), .val (.int (1 : Int32)), .val (.int (2 : Int32)), .val (.int (65535 : Int32)), .val (.int (32768 : Int32)), .val (.int ru), .unset] []))
    refine own_st (fun t k => XS.iload X14.here hx rfl (hb hby at_91) rfl k) ?_
    show own_Go p e below K (T14.setTop (mkF m 93 #[.val (.int p1), .val (.int p2), .val (.int p3), .val (.int (3 : Int32)), .val (.ref w4), .val (.int (1 : Int32)), .val (.int (2 : Int32)), .val (.int (65535 : Int32)), .val (.int (32768 : Int32)), .val (.int ru), .unset] [(.int ru)]))
    refine own_st (fun t k => XS.iload X14.here hx rfl (hb hby at_93) rfl k) ?_
    show own_Go p e below K (T14.setTop (mkF m 95 #[.val (.int p1), .val (.int p2), .val (.int p3), .val (.int (3 : Int32)), .val (.ref w4), .val (.int (1 : Int32)), .val (.int (2 : Int32)), .val (.int (65535 : Int32)), .val (.int (32768 : Int32)), .val (.int ru), .unset] [(.int (65535 : Int32)), (.int ru)]))
    refine own_st (fun t k => XS.iconst X14.here hx rfl (hb hby at_95) k) ?_
    show own_Go p e below K (T14.setTop (mkF m 96 #[.val (.int p1), .val (.int p2), .val (.int p3), .val (.int (3 : Int32)), .val (.ref w4), .val (.int (1 : Int32)), .val (.int (2 : Int32)), .val (.int (65535 : Int32)), .val (.int (32768 : Int32)), .val (.int ru), .unset] [(.int (1 : Int32)), (.int (65535 : Int32)), (.int ru)]))
    refine own_st (fun t k => XS.iadd X14.here hx rfl (hb hby at_96) rfl k) ?_
    show own_Go p e below K (T14.setTop (mkF m 97 #[.val (.int p1), .val (.int p2), .val (.int p3), .val (.int (3 : Int32)), .val (.ref w4), .val (.int (1 : Int32)), .val (.int (2 : Int32)), .val (.int (65535 : Int32)), .val (.int (32768 : Int32)), .val (.int ru), .unset] [(.int ((65535 : Int32) + (1 : Int32))), (.int ru)]))
    rw [show ((65535 : Int32) + (1 : Int32)) = (65536 : Int32) from by decide]
    show own_Go p e below K (T14.setTop (mkF m 97 #[.val (.int p1), .val (.int p2), .val (.int p3), .val (.int (3 : Int32)), .val (.ref w4), .val (.int (1 : Int32)), .val (.int (2 : Int32)), .val (.int (65535 : Int32)), .val (.int (32768 : Int32)), .val (.int ru), .unset] [(.int (65536 : Int32)), (.int ru)]))
    refine own_st (fun t k => XS.isub X14.here hx rfl (hb hby at_97) rfl k) ?_
    show own_Go p e below K (T14.setTop (mkF m 98 #[.val (.int p1), .val (.int p2), .val (.int p3), .val (.int (3 : Int32)), .val (.ref w4), .val (.int (1 : Int32)), .val (.int (2 : Int32)), .val (.int (65535 : Int32)), .val (.int (32768 : Int32)), .val (.int ru), .unset] [(.int (ru - (65536 : Int32)))]))
    refine own_st (fun t k => XS.istore X14.here hx rfl (hb hby at_98) rfl (l' := #[.val (.int p1), .val (.int p2), .val (.int p3), .val (.int (3 : Int32)), .val (.ref w4), .val (.int (1 : Int32)), .val (.int (2 : Int32)), .val (.int (65535 : Int32)), .val (.int (32768 : Int32)), .val (.int ru), .val (.int (ru - (65536 : Int32)))]) rfl k) ?_
    show own_Go p e below K (T14.setTop (mkF m 100 #[.val (.int p1), .val (.int p2), .val (.int p3), .val (.int (3 : Int32)), .val (.ref w4), .val (.int (1 : Int32)), .val (.int (2 : Int32)), .val (.int (65535 : Int32)), .val (.int (32768 : Int32)), .val (.int ru), .val (.int (ru - (65536 : Int32)))] []))
    refine own_st (fun t k => XS.goto X14.here hx rfl (pc0 := 100) (pc' := 107) rfl (hb hby at_100) (by decide) (by decide) k) ?_
    show own_Go p e below K (T14.setTop (mkF m 107 #[.val (.int p1), .val (.int p2), .val (.int p3), .val (.int (3 : Int32)), .val (.ref w4), .val (.int (1 : Int32)), .val (.int (2 : Int32)), .val (.int (65535 : Int32)), .val (.int (32768 : Int32)), .val (.int ru), .val (.int (ru - (65536 : Int32)))] []))
    refine own_st (fun t k => XS.aload X14.here hx rfl (hb hby at_107) rfl rfl k) ?_
    show own_Go p e below K (T14.setTop (mkF m 109 #[.val (.int p1), .val (.int p2), .val (.int p3), .val (.int (3 : Int32)), .val (.ref w4), .val (.int (1 : Int32)), .val (.int (2 : Int32)), .val (.int (65535 : Int32)), .val (.int (32768 : Int32)), .val (.int ru), .val (.int (ru - (65536 : Int32)))] [(.ref w4)]))
    refine own_st (fun t k => XS.iload X14.here hx rfl (hb hby at_109) rfl k) ?_
    show own_Go p e below K (T14.setTop (mkF m 111 #[.val (.int p1), .val (.int p2), .val (.int p3), .val (.int (3 : Int32)), .val (.ref w4), .val (.int (1 : Int32)), .val (.int (2 : Int32)), .val (.int (65535 : Int32)), .val (.int (32768 : Int32)), .val (.int ru), .val (.int (ru - (65536 : Int32)))] [(.int ru), (.ref w4)]))
    refine own_st (fun t k => XS.iload X14.here hx rfl (hb hby at_111) rfl k) ?_
    show own_Go p e below K (T14.setTop (mkF m 113 #[.val (.int p1), .val (.int p2), .val (.int p3), .val (.int (3 : Int32)), .val (.ref w4), .val (.int (1 : Int32)), .val (.int (2 : Int32)), .val (.int (65535 : Int32)), .val (.int (32768 : Int32)), .val (.int ru), .val (.int (ru - (65536 : Int32)))] [(.int (2 : Int32)), (.int ru), (.ref w4)]))
    obtain ⟨cq18, kq18, qv18a, qv18b, qv18c⟩ := isOf hZ e14 P8
    obtain ⟨_, _, ⟨T18, L18, k18, n18⟩, -, X18, ⟨Lc18, hQ18, l18, y18, z18⟩, st18⟩ := X14.virtualBack hx (y := (⟨"com/example/micrologue/micrologue/OperandKind", "value", "(II)I"⟩ : MethodName)) (z := (⟨"com/example/micrologue/micrologue/OperandKind", "value", "(II)I"⟩ : MethodName)) hown (mvT hZ (hw _ (List.mem_of_getElem? (i := 10) rfl))) (mvT hZ (hw _ (List.mem_of_getElem? (i := 11) rfl))) (notFace_of_selects (args := #[]) (mvT hZ (hw _ (List.mem_of_getElem? (i := 13) rfl)))) (mvT hZ (hw _ (List.mem_of_getElem? (i := 13) rfl))) (mvT hZ (hw _ (List.mem_of_getElem? (i := 12) rfl))) (by decide) (backOf (W := 0) (rm2 l Z a0 hw [] w4 ru (2 : Int32) ((1 : Int32)) h0 n0 Z0 P13) hZ (hw _ (List.mem_of_getElem? (i := 14) rfl)) (hw _ (List.mem_of_getElem? (i := 6) rfl)) (by decide) (by decide)) qv18a qv18c (g := (mkF m 113 #[.val (.int p1), .val (.int p2), .val (.int p3), .val (.int (3 : Int32)), .val (.ref w4), .val (.int (1 : Int32)), .val (.int (2 : Int32)), .val (.int (65535 : Int32)), .val (.int (32768 : Int32)), .val (.int ru), .val (.int (ru - (65536 : Int32)))] [(.int (2 : Int32)), (.int ru), (.ref w4)])) rfl (by rw [hml]; rfl) (Steps.refl _) (argsL := [(.int ru), (.int (2 : Int32))]) (rest := []) (lenOf pd_0_1 rfl) rfl (by show 2 * 0 + _ ≤ _; exact Nat.le_of_eq rfl) (hb hby at_113) (fun _ _ => ⟨rfl, e14, (by decide : 0 + 0 ≤ _), (by decide : 0 + 0 ≤ _)⟩)
    dsimp only [Pt.U, Pt.locs, Pt.cells, Pt.slots] at X18 l18 y18 z18 st18 hQ18
    subst l18 y18 z18
    obtain ⟨r18, rfl, hr18, N18q, e18⟩ := hQ18
    have N18 := Fr.app N14 N18q
    refine own_tr st18 ?_
    show own_Go p e below K (T18.setTop (mkF m 116 #[.val (.int p1), .val (.int p2), .val (.int p3), .val (.int (3 : Int32)), .val (.ref w4), .val (.int (1 : Int32)), .val (.int (2 : Int32)), .val (.int (65535 : Int32)), .val (.int (32768 : Int32)), .val (.int ru), .val (.int (ru - (65536 : Int32)))] [(.int r18)]))
    refine own_st (fun t k => XS.iload X18.here hx rfl (hb hby at_116) rfl k) ?_
    show own_Go p e below K (T18.setTop (mkF m 118 #[.val (.int p1), .val (.int p2), .val (.int p3), .val (.int (3 : Int32)), .val (.ref w4), .val (.int (1 : Int32)), .val (.int (2 : Int32)), .val (.int (65535 : Int32)), .val (.int (32768 : Int32)), .val (.int ru), .val (.int (ru - (65536 : Int32)))] [(.int (ru - (65536 : Int32))), (.int r18)]))
    refine own_st (fun t k => XS.icmpNo X18.here hx rfl (hb hby at_118) rfl (teq (hr18.trans (own_b2 hru hc88) : r18 = (ru - (65536 : Int32)))).2 k) ?_
    show own_Go p e below K (T18.setTop (mkF m 121 #[.val (.int p1), .val (.int p2), .val (.int p3), .val (.int (3 : Int32)), .val (.ref w4), .val (.int (1 : Int32)), .val (.int (2 : Int32)), .val (.int (65535 : Int32)), .val (.int (32768 : Int32)), .val (.int ru), .val (.int (ru - (65536 : Int32)))] []))
    refine own_st (fun t k => XS.iconst X18.here hx rfl (hb hby at_121) k) ?_
    show own_Go p e below K (T18.setTop (mkF m 122 #[.val (.int p1), .val (.int p2), .val (.int p3), .val (.int (3 : Int32)), .val (.ref w4), .val (.int (1 : Int32)), .val (.int (2 : Int32)), .val (.int (65535 : Int32)), .val (.int (32768 : Int32)), .val (.int ru), .val (.int (ru - (65536 : Int32)))] [(.int (1 : Int32))]))
    refine own_st (fun t k => XS.goto X18.here hx rfl (pc0 := 122) (pc' := 126) rfl (hb hby at_122) (by decide) (by decide) k) ?_
    show own_Go p e below K (T18.setTop (mkF m 126 #[.val (.int p1), .val (.int p2), .val (.int p3), .val (.int (3 : Int32)), .val (.ref w4), .val (.int (1 : Int32)), .val (.int (2 : Int32)), .val (.int (65535 : Int32)), .val (.int (32768 : Int32)), .val (.int ru), .val (.int (ru - (65536 : Int32)))] [(.int (1 : Int32))]))
    obtain ⟨fs, hr, hrun, hended, hW, hsame⟩ := X18.leave (v := some (.int (nar .boolean (1 : Int32)))) (fun h => by rw [Bd.returns] at h; cases h)
    refine ⟨_, retN X18 hx (t := .boolean) Bd.returns (by simp) (hb hby at_126) hr, fin _ _ _ hrun hended ?_ ⟨⟨_, rfl⟩, hW, hsame.mono (by decide) (by decide)⟩⟩
    show Q0 Z p1 p2 p3 w1 w2 w3 w4 w5 h0 n0 _ T18.heap _
    rw [e18]
    exact ⟨rfl, N18⟩
  subst hs
  show own_Go p e below K (s₁.setTop (mkF m 6 #[.val (.int p1), .val (.int p2), .val (.int p3), .unset, .unset, .unset, .unset, .unset, .unset, .unset, .unset] [(.int (4 : Int32))]))
  refine own_st (fun t k => XS.istoreN X0.here hx rfl (hb hby at_6) rfl (l' := #[.val (.int p1), .val (.int p2), .val (.int p3), .val (.int (4 : Int32)), .unset, .unset, .unset, .unset, .unset, .unset, .unset]) rfl k) ?_
  show own_Go p e below K (s₁.setTop (mkF m 7 #[.val (.int p1), .val (.int p2), .val (.int p3), .val (.int (4 : Int32)), .unset, .unset, .unset, .unset, .unset, .unset, .unset] []))
  refine own_st (fun t k => XS.iloadN X0.here hx rfl (hb hby at_7) rfl k) ?_
  show own_Go p e below K (s₁.setTop (mkF m 8 #[.val (.int p1), .val (.int p2), .val (.int p3), .val (.int (4 : Int32)), .unset, .unset, .unset, .unset, .unset, .unset, .unset] [(.int (4 : Int32))]))
  obtain ⟨_, _, ⟨T19, L19, k19, n19⟩, -, X19, ⟨Lc19, hQ19, l19, y19, z19⟩, st19⟩ := Jvm.LawKit.callS X0 hx (y := (⟨"com/example/micrologue/micrologue/OperandKindValuePinLaw", "kindOf", "(I)Lcom/example/micrologue/micrologue/OperandKind;"⟩ : MethodName)) hown (mvT hZ (hw _ (List.mem_of_getElem? (i := 1) rfl))) (mvT hZ (hw _ (List.mem_of_getElem? (i := 2) rfl))) (mvT hZ (hw _ (List.mem_of_getElem? (i := 3) rfl))) (mvT hZ (hw _ (List.mem_of_getElem? (i := 4) rfl))) (by decide) (backOf (W := 0) (rm1 l Z a0 hw [] (4 : Int32) (w1) (w2) (w3) (w4) (w5) h0 n0 Z0 P0 P1 P2 P3 P4) hZ (hw _ (List.mem_of_getElem? (i := 4) rfl)) (hw _ (List.mem_of_getElem? (i := 3) rfl)) (by decide) (by decide)) (g := (mkF m 8 #[.val (.int p1), .val (.int p2), .val (.int p3), .val (.int (4 : Int32)), .unset, .unset, .unset, .unset, .unset, .unset, .unset] [(.int (4 : Int32))])) rfl (by rw [hml]; rfl) (argsL := [(.int (4 : Int32))]) (rest := []) (lenOf pd_0_0 rfl) rfl (by show 2 * 0 + _ ≤ _; exact Nat.le_of_eq rfl) (hb hby at_8) (fun _ _ => ⟨rfl, e0, (by decide : 0 + 0 ≤ _), (by decide : 0 + 0 ≤ _)⟩)
  dsimp only [Pt.U, Pt.locs, Pt.cells, Pt.slots] at X19 l19 y19 z19 st19 hQ19
  subst l19 y19 z19
  obtain ⟨r19, rfl, hr19, N19q, e19⟩ := hQ19
  have N19 := Fr.app N0 N19q
  refine own_st st19 ?_
  show own_Go p e below K (T19.setTop (mkF m 11 #[.val (.int p1), .val (.int p2), .val (.int p3), .val (.int (4 : Int32)), .unset, .unset, .unset, .unset, .unset, .unset, .unset] [(.ref r19)]))
  have hs := ((hr19.trans (own_k4 w1 w2 w3 w4 w5)).symm : w5 = r19)
  subst hs
  show own_Go p e below K (T19.setTop (mkF m 11 #[.val (.int p1), .val (.int p2), .val (.int p3), .val (.int (4 : Int32)), .unset, .unset, .unset, .unset, .unset, .unset, .unset] [(.ref w5)]))
  refine own_st (fun t k => XS.astore X19.here hx rfl (hb hby at_11) rfl rfl (l' := #[.val (.int p1), .val (.int p2), .val (.int p3), .val (.int (4 : Int32)), .val (.ref w5), .unset, .unset, .unset, .unset, .unset, .unset]) rfl k) ?_
  show own_Go p e below K (T19.setTop (mkF m 13 #[.val (.int p1), .val (.int p2), .val (.int p3), .val (.int (4 : Int32)), .val (.ref w5), .unset, .unset, .unset, .unset, .unset, .unset] []))
  refine own_st (fun t k => XS.iloadN X19.here hx rfl (hb hby at_13) rfl k) ?_
  show own_Go p e below K (T19.setTop (mkF m 14 #[.val (.int p1), .val (.int p2), .val (.int p3), .val (.int (4 : Int32)), .val (.ref w5), .unset, .unset, .unset, .unset, .unset, .unset] [(.int (4 : Int32))]))
  refine own_st (fun t k => XS.ifNo X19.here hx rfl (hb hby at_14) rfl ((if0 _ _).trans (feq (by decide : ¬ ((4 : Int32) = (0 : Int32)))).1) k) ?_
  show own_Go p e below K (T19.setTop (mkF m 17 #[.val (.int p1), .val (.int p2), .val (.int p3), .val (.int (4 : Int32)), .val (.ref w5), .unset, .unset, .unset, .unset, .unset, .unset] []))
  refine own_st (fun t k => XS.iloadN X19.here hx rfl (hb hby at_17) rfl k) ?_
  show own_Go p e below K (T19.setTop (mkF m 18 #[.val (.int p1), .val (.int p2), .val (.int p3), .val (.int (4 : Int32)), .val (.ref w5), .unset, .unset, .unset, .unset, .unset, .unset] [(.int (4 : Int32))]))
  refine own_st (fun t k => XS.iconst X19.here hx rfl (hb hby at_18) k) ?_
  show own_Go p e below K (T19.setTop (mkF m 19 #[.val (.int p1), .val (.int p2), .val (.int p3), .val (.int (4 : Int32)), .val (.ref w5), .unset, .unset, .unset, .unset, .unset, .unset] [(.int (1 : Int32)), (.int (4 : Int32))]))
  refine own_st (fun t k => XS.icmpNo X19.here hx rfl (hb hby at_19) rfl (feq (by decide : ¬ ((4 : Int32) = (1 : Int32)))).1 k) ?_
  show own_Go p e below K (T19.setTop (mkF m 22 #[.val (.int p1), .val (.int p2), .val (.int p3), .val (.int (4 : Int32)), .val (.ref w5), .unset, .unset, .unset, .unset, .unset, .unset] []))
  refine own_st (fun t k => XS.iloadN X19.here hx rfl (hb hby at_22) rfl k) ?_
  show own_Go p e below K (T19.setTop (mkF m 23 #[.val (.int p1), .val (.int p2), .val (.int p3), .val (.int (4 : Int32)), .val (.ref w5), .unset, .unset, .unset, .unset, .unset, .unset] [(.int (4 : Int32))]))
  refine own_st (fun t k => XS.iconst X19.here hx rfl (hb hby at_23) k) ?_
  show own_Go p e below K (T19.setTop (mkF m 24 #[.val (.int p1), .val (.int p2), .val (.int p3), .val (.int (4 : Int32)), .val (.ref w5), .unset, .unset, .unset, .unset, .unset, .unset] [(.int (3 : Int32)), (.int (4 : Int32))]))
  refine own_st (fun t k => XS.icmpYes X19.here hx rfl (pc0 := 24) (pc' := 31) rfl (hb hby at_24) rfl (feq (by decide : ¬ ((4 : Int32) = (3 : Int32)))).2 (by decide) (by decide) k) ?_
  show own_Go p e below K (T19.setTop (mkF m 31 #[.val (.int p1), .val (.int p2), .val (.int p3), .val (.int (4 : Int32)), .val (.ref w5), .unset, .unset, .unset, .unset, .unset, .unset] []))
  refine own_st (fun t k => XS.iconst X19.here hx rfl (hb hby at_31) k) ?_
  show own_Go p e below K (T19.setTop (mkF m 32 #[.val (.int p1), .val (.int p2), .val (.int p3), .val (.int (4 : Int32)), .val (.ref w5), .unset, .unset, .unset, .unset, .unset, .unset] [(.int (0 : Int32))]))
  refine own_st (fun t k => XS.istore X19.here hx rfl (hb hby at_32) rfl (l' := #[.val (.int p1), .val (.int p2), .val (.int p3), .val (.int (4 : Int32)), .val (.ref w5), .val (.int (0 : Int32)), .unset, .unset, .unset, .unset, .unset]) rfl k) ?_
  show own_Go p e below K (T19.setTop (mkF m 34 #[.val (.int p1), .val (.int p2), .val (.int p3), .val (.int (4 : Int32)), .val (.ref w5), .val (.int (0 : Int32)), .unset, .unset, .unset, .unset, .unset] []))
  refine own_st (fun t k => XS.iconst X19.here hx rfl (hb hby at_34) k) ?_
  show own_Go p e below K (T19.setTop (mkF m 35 #[.val (.int p1), .val (.int p2), .val (.int p3), .val (.int (4 : Int32)), .val (.ref w5), .val (.int (0 : Int32)), .unset, .unset, .unset, .unset, .unset] [(.int (1 : Int32))]))
  refine own_st (fun t k => XS.iloadN X19.here hx rfl (hb hby at_35) rfl k) ?_
  show own_Go p e below K (T19.setTop (mkF m 36 #[.val (.int p1), .val (.int p2), .val (.int p3), .val (.int (4 : Int32)), .val (.ref w5), .val (.int (0 : Int32)), .unset, .unset, .unset, .unset, .unset] [(.int p2), (.int (1 : Int32))]))
  refine own_st (fun t k => XS.iconst X19.here hx rfl (hb hby at_36) k) ?_
  show own_Go p e below K (T19.setTop (mkF m 37 #[.val (.int p1), .val (.int p2), .val (.int p3), .val (.int (4 : Int32)), .val (.ref w5), .val (.int (0 : Int32)), .unset, .unset, .unset, .unset, .unset] [(.int (1 : Int32)), (.int p2), (.int (1 : Int32))]))
  refine own_st (fun t k => XS.iand X19.here hx rfl (hb hby at_37) rfl k) ?_
  show own_Go p e below K (T19.setTop (mkF m 38 #[.val (.int p1), .val (.int p2), .val (.int p3), .val (.int (4 : Int32)), .val (.ref w5), .val (.int (0 : Int32)), .unset, .unset, .unset, .unset, .unset] [(.int (p2 &&& (1 : Int32))), (.int (1 : Int32))]))
  refine own_st (fun t k => XS.iadd X19.here hx rfl (hb hby at_38) rfl k) ?_
  show own_Go p e below K (T19.setTop (mkF m 39 #[.val (.int p1), .val (.int p2), .val (.int p3), .val (.int (4 : Int32)), .val (.ref w5), .val (.int (0 : Int32)), .unset, .unset, .unset, .unset, .unset] [(.int ((1 : Int32) + (p2 &&& (1 : Int32))))]))
  generalize hnb : ((1 : Int32) + (p2 &&& (1 : Int32))) = nb
  show own_Go p e below K (T19.setTop (mkF m 39 #[.val (.int p1), .val (.int p2), .val (.int p3), .val (.int (4 : Int32)), .val (.ref w5), .val (.int (0 : Int32)), .unset, .unset, .unset, .unset, .unset] [(.int nb)]))
  rcases own_nbb hnb with hs | hs
  · subst hs
    show own_Go p e below K (T19.setTop (mkF m 39 #[.val (.int p1), .val (.int p2), .val (.int p3), .val (.int (4 : Int32)), .val (.ref w5), .val (.int (0 : Int32)), .unset, .unset, .unset, .unset, .unset] [(.int (1 : Int32))]))
    refine own_st (fun t k => XS.istore X19.here hx rfl (hb hby at_39) rfl (l' := #[.val (.int p1), .val (.int p2), .val (.int p3), .val (.int (4 : Int32)), .val (.ref w5), .val (.int (0 : Int32)), .val (.int (1 : Int32)), .unset, .unset, .unset, .unset]) rfl k) ?_
    show own_Go p e below K (T19.setTop (mkF m 41 #[.val (.int p1), .val (.int p2), .val (.int p3), .val (.int (4 : Int32)), .val (.ref w5), .val (.int (0 : Int32)), .val (.int (1 : Int32)), .unset, .unset, .unset, .unset] []))
    refine own_st (fun t k => XS.iload X19.here hx rfl (hb hby at_41) rfl k) ?_
    show own_Go p e below K (T19.setTop (mkF m 43 #[.val (.int p1), .val (.int p2), .val (.int p3), .val (.int (4 : Int32)), .val (.ref w5), .val (.int (0 : Int32)), .val (.int (1 : Int32)), .unset, .unset, .unset, .unset] [(.int (1 : Int32))]))
    refine own_st (fun t k => XS.iconst X19.here hx rfl (hb hby at_43) k) ?_
    show own_Go p e below K (T19.setTop (mkF m 44 #[.val (.int p1), .val (.int p2), .val (.int p3), .val (.int (4 : Int32)), .val (.ref w5), .val (.int (0 : Int32)), .val (.int (1 : Int32)), .unset, .unset, .unset, .unset] [(.int (1 : Int32)), (.int (1 : Int32))]))
    refine own_st (fun t k => XS.icmpNo X19.here hx rfl (hb hby at_44) rfl (teq (by decide : (1 : Int32) = (1 : Int32))).2 k) ?_
    show own_Go p e below K (T19.setTop (mkF m 47 #[.val (.int p1), .val (.int p2), .val (.int p3), .val (.int (4 : Int32)), .val (.ref w5), .val (.int (0 : Int32)), .val (.int (1 : Int32)), .unset, .unset, .unset, .unset] []))
    refine own_st (fun t k => XS.sipush X19.here hx rfl (hb hby at_47) k) ?_
    show own_Go p e below K (T19.setTop (mkF m 50 #[.val (.int p1), .val (.int p2), .val (.int p3), .val (.int (4 : Int32)), .val (.ref w5), .val (.int (0 : Int32)), .val (.int (1 : Int32)), .unset, .unset, .unset, .unset] [(.int (255 : Int32))]))
    refine own_st (fun t k => XS.goto X19.here hx rfl (pc0 := 50) (pc' := 55) rfl (hb hby at_50) (by decide) (by decide) k) ?_
    show own_Go p e below K (T19.setTop (mkF m 55 #[.val (.int p1), .val (.int p2), .val (.int p3), .val (.int (4 : Int32)), .val (.ref w5), .val (.int (0 : Int32)), .val (.int (1 : Int32)), .unset, .unset, .unset, .unset] [(.int (255 : Int32))]))
    refine own_st (fun t k => XS.istore X19.here hx rfl (hb hby at_55) rfl (l' := #[.val (.int p1), .val (.int p2), .val (.int p3), .val (.int (4 : Int32)), .val (.ref w5), .val (.int (0 : Int32)), .val (.int (1 : Int32)), .val (.int (255 : Int32)), .unset, .unset, .unset]) rfl k) ?_
    show own_Go p e below K (T19.setTop (mkF m 57 #[.val (.int p1), .val (.int p2), .val (.int p3), .val (.int (4 : Int32)), .val (.ref w5), .val (.int (0 : Int32)), .val (.int (1 : Int32)), .val (.int (255 : Int32)), .unset, .unset, .unset] []))
    refine own_st (fun t k => XS.iload X19.here hx rfl (hb hby at_57) rfl k) ?_
    show own_Go p e below K (T19.setTop (mkF m 59 #[.val (.int p1), .val (.int p2), .val (.int p3), .val (.int (4 : Int32)), .val (.ref w5), .val (.int (0 : Int32)), .val (.int (1 : Int32)), .val (.int (255 : Int32)), .unset, .unset, .unset] [(.int (1 : Int32))]))
    refine own_st (fun t k => XS.iconst X19.here hx rfl (hb hby at_59) k) ?_
    show own_Go p e below K (T19.setTop (mkF m 60 #[.val (.int p1), .val (.int p2), .val (.int p3), .val (.int (4 : Int32)), .val (.ref w5), .val (.int (0 : Int32)), .val (.int (1 : Int32)), .val (.int (255 : Int32)), .unset, .unset, .unset] [(.int (1 : Int32)), (.int (1 : Int32))]))
    refine own_st (fun t k => XS.icmpNo X19.here hx rfl (hb hby at_60) rfl (teq (by decide : (1 : Int32) = (1 : Int32))).2 k) ?_
    show own_Go p e below K (T19.setTop (mkF m 63 #[.val (.int p1), .val (.int p2), .val (.int p3), .val (.int (4 : Int32)), .val (.ref w5), .val (.int (0 : Int32)), .val (.int (1 : Int32)), .val (.int (255 : Int32)), .unset, .unset, .unset] []))
    refine own_st (fun t k => XS.sipush X19.here hx rfl (hb hby at_63) k) ?_
    show own_Go p e below K (T19.setTop (mkF m 66 #[.val (.int p1), .val (.int p2), .val (.int p3), .val (.int (4 : Int32)), .val (.ref w5), .val (.int (0 : Int32)), .val (.int (1 : Int32)), .val (.int (255 : Int32)), .unset, .unset, .unset] [(.int (128 : Int32))]))
    refine own_st (fun t k => XS.goto X19.here hx rfl (pc0 := 66) (pc' := 71) rfl (hb hby at_66) (by decide) (by decide) k) ?_
    show own_Go p e below K (T19.setTop (mkF m 71 #[.val (.int p1), .val (.int p2), .val (.int p3), .val (.int (4 : Int32)), .val (.ref w5), .val (.int (0 : Int32)), .val (.int (1 : Int32)), .val (.int (255 : Int32)), .unset, .unset, .unset] [(.int (128 : Int32))]))
    refine own_st (fun t k => XS.istore X19.here hx rfl (hb hby at_71) rfl (l' := #[.val (.int p1), .val (.int p2), .val (.int p3), .val (.int (4 : Int32)), .val (.ref w5), .val (.int (0 : Int32)), .val (.int (1 : Int32)), .val (.int (255 : Int32)), .val (.int (128 : Int32)), .unset, .unset]) rfl k) ?_
    show own_Go p e below K (T19.setTop (mkF m 73 #[.val (.int p1), .val (.int p2), .val (.int p3), .val (.int (4 : Int32)), .val (.ref w5), .val (.int (0 : Int32)), .val (.int (1 : Int32)), .val (.int (255 : Int32)), .val (.int (128 : Int32)), .unset, .unset] []))
    refine own_st (fun t k => XS.iloadN X19.here hx rfl (hb hby at_73) rfl k) ?_
    show own_Go p e below K (T19.setTop (mkF m 74 #[.val (.int p1), .val (.int p2), .val (.int p3), .val (.int (4 : Int32)), .val (.ref w5), .val (.int (0 : Int32)), .val (.int (1 : Int32)), .val (.int (255 : Int32)), .val (.int (128 : Int32)), .unset, .unset] [(.int p3)]))
    refine own_st (fun t k => XS.iload X19.here hx rfl (hb hby at_74) rfl k) ?_
    show own_Go p e below K (T19.setTop (mkF m 76 #[.val (.int p1), .val (.int p2), .val (.int p3), .val (.int (4 : Int32)), .val (.ref w5), .val (.int (0 : Int32)), .val (.int (1 : Int32)), .val (.int (255 : Int32)), .val (.int (128 : Int32)), .unset, .unset] [(.int (255 : Int32)), (.int p3)]))
    refine own_st (fun t k => XS.iand X19.here hx rfl (hb hby at_76) rfl k) ?_
    show own_Go p e below K (T19.setTop (mkF m 77 #[.val (.int p1), .val (.int p2), .val (.int p3), .val (.int (4 : Int32)), .val (.ref w5), .val (.int (0 : Int32)), .val (.int (1 : Int32)), .val (.int (255 : Int32)), .val (.int (128 : Int32)), .unset, .unset] [(.int (p3 &&& (255 : Int32)))]))
    generalize hru : (p3 &&& (255 : Int32)) = ru
    show own_Go p e below K (T19.setTop (mkF m 77 #[.val (.int p1), .val (.int p2), .val (.int p3), .val (.int (4 : Int32)), .val (.ref w5), .val (.int (0 : Int32)), .val (.int (1 : Int32)), .val (.int (255 : Int32)), .val (.int (128 : Int32)), .unset, .unset] [(.int ru)]))
    refine own_st (fun t k => XS.istore X19.here hx rfl (hb hby at_77) rfl (l' := #[.val (.int p1), .val (.int p2), .val (.int p3), .val (.int (4 : Int32)), .val (.ref w5), .val (.int (0 : Int32)), .val (.int (1 : Int32)), .val (.int (255 : Int32)), .val (.int (128 : Int32)), .val (.int ru), .unset]) rfl k) ?_
    show own_Go p e below K (T19.setTop (mkF m 79 #[.val (.int p1), .val (.int p2), .val (.int p3), .val (.int (4 : Int32)), .val (.ref w5), .val (.int (0 : Int32)), .val (.int (1 : Int32)), .val (.int (255 : Int32)), .val (.int (128 : Int32)), .val (.int ru), .unset] []))
    refine own_st (fun t k => XS.iload X19.here hx rfl (hb hby at_79) rfl k) ?_
    show own_Go p e below K (T19.setTop (mkF m 81 #[.val (.int p1), .val (.int p2), .val (.int p3), .val (.int (4 : Int32)), .val (.ref w5), .val (.int (0 : Int32)), .val (.int (1 : Int32)), .val (.int (255 : Int32)), .val (.int (128 : Int32)), .val (.int ru), .unset] [(.int (0 : Int32))]))
    refine own_st (fun t k => XS.ifYes X19.here hx rfl (pc0 := 81) (pc' := 103) rfl (hb hby at_81) rfl ((if0 _ _).trans (teq (by decide : (0 : Int32) = (0 : Int32))).1) (by decide) (by decide) k) ?_
    show own_Go p e below K (T19.setTop (mkF m 103 #[.val (.int p1), .val (.int p2), .val (.int p3), .val (.int (4 : Int32)), .val (.ref w5), .val (.int (0 : Int32)), .val (.int (1 : Int32)), .val (.int (255 : Int32)), .val (.int (128 : Int32)), .val (.int ru), .unset] []))
    refine own_st (fun t k => XS.iload X19.here hx rfl (hb hby at_103) rfl k) ?_
    show own_Go p e below K (T19.setTop (mkF m 105 #[.val (.int p1), .val (.int p2), .val (.int p3), .val (.int (4 : Int32)), .val (.ref w5), .val (.int (0 : Int32)), .val (.int (1 : Int32)), .val (.int (255 : Int32)), .val (.int (128 : Int32)), .val (.int ru), .unset] [(.int ru)]))
    refine own_st (fun t k => XS.istore X19.here hx rfl (hb hby at_105) rfl (l' := #[.val (.int p1), .val (.int p2), .val (.int p3), .val (.int (4 : Int32)), .val (.ref w5), .val (.int (0 : Int32)), .val (.int (1 : Int32)), .val (.int (255 : Int32)), .val (.int (128 : Int32)), .val (.int ru), .val (.int ru)]) rfl k) ?_
    show own_Go p e below K (T19.setTop (mkF m 107 #[.val (.int p1), .val (.int p2), .val (.int p3), .val (.int (4 : Int32)), .val (.ref w5), .val (.int (0 : Int32)), .val (.int (1 : Int32)), .val (.int (255 : Int32)), .val (.int (128 : Int32)), .val (.int ru), .val (.int ru)] []))
    refine own_st (fun t k => XS.aload X19.here hx rfl (hb hby at_107) rfl rfl k) ?_
    show own_Go p e below K (T19.setTop (mkF m 109 #[.val (.int p1), .val (.int p2), .val (.int p3), .val (.int (4 : Int32)), .val (.ref w5), .val (.int (0 : Int32)), .val (.int (1 : Int32)), .val (.int (255 : Int32)), .val (.int (128 : Int32)), .val (.int ru), .val (.int ru)] [(.ref w5)]))
    refine own_st (fun t k => XS.iload X19.here hx rfl (hb hby at_109) rfl k) ?_
    show own_Go p e below K (T19.setTop (mkF m 111 #[.val (.int p1), .val (.int p2), .val (.int p3), .val (.int (4 : Int32)), .val (.ref w5), .val (.int (0 : Int32)), .val (.int (1 : Int32)), .val (.int (255 : Int32)), .val (.int (128 : Int32)), .val (.int ru), .val (.int ru)] [(.int ru), (.ref w5)]))
    refine own_st (fun t k => XS.iload X19.here hx rfl (hb hby at_111) rfl k) ?_
    show own_Go p e below K (T19.setTop (mkF m 113 #[.val (.int p1), .val (.int p2), .val (.int p3), .val (.int (4 : Int32)), .val (.ref w5), .val (.int (0 : Int32)), .val (.int (1 : Int32)), .val (.int (255 : Int32)), .val (.int (128 : Int32)), .val (.int ru), .val (.int ru)] [(.int (1 : Int32)), (.int ru), (.ref w5)]))
    obtain ⟨cq20, kq20, qv20a, qv20b, qv20c⟩ := isOf hZ e19 P9
    obtain ⟨_, _, ⟨T20, L20, k20, n20⟩, -, X20, ⟨Lc20, hQ20, l20, y20, z20⟩, st20⟩ := X19.virtualBack hx (y := (⟨"com/example/micrologue/micrologue/OperandKind", "value", "(II)I"⟩ : MethodName)) (z := (⟨"com/example/micrologue/micrologue/OperandKind", "value", "(II)I"⟩ : MethodName)) hown (mvT hZ (hw _ (List.mem_of_getElem? (i := 10) rfl))) (mvT hZ (hw _ (List.mem_of_getElem? (i := 11) rfl))) (notFace_of_selects (args := #[]) (mvT hZ (hw _ (List.mem_of_getElem? (i := 13) rfl)))) (mvT hZ (hw _ (List.mem_of_getElem? (i := 13) rfl))) (mvT hZ (hw _ (List.mem_of_getElem? (i := 12) rfl))) (by decide) (backOf (W := 0) (rm2 l Z a0 hw [] w5 ru (1 : Int32) ((0 : Int32)) h0 n0 Z0 P14) hZ (hw _ (List.mem_of_getElem? (i := 14) rfl)) (hw _ (List.mem_of_getElem? (i := 6) rfl)) (by decide) (by decide)) qv20a qv20c (g := (mkF m 113 #[.val (.int p1), .val (.int p2), .val (.int p3), .val (.int (4 : Int32)), .val (.ref w5), .val (.int (0 : Int32)), .val (.int (1 : Int32)), .val (.int (255 : Int32)), .val (.int (128 : Int32)), .val (.int ru), .val (.int ru)] [(.int (1 : Int32)), (.int ru), (.ref w5)])) rfl (by rw [hml]; rfl) (Steps.refl _) (argsL := [(.int ru), (.int (1 : Int32))]) (rest := []) (lenOf pd_0_1 rfl) rfl (by show 2 * 0 + _ ≤ _; exact Nat.le_of_eq rfl) (hb hby at_113) (fun _ _ => ⟨rfl, e19, (by decide : 0 + 0 ≤ _), (by decide : 0 + 0 ≤ _)⟩)
    dsimp only [Pt.U, Pt.locs, Pt.cells, Pt.slots] at X20 l20 y20 z20 st20 hQ20
    subst l20 y20 z20
    obtain ⟨r20, rfl, hr20, N20q, e20⟩ := hQ20
    have N20 := Fr.app N19 N20q
    refine own_tr st20 ?_
    show own_Go p e below K (T20.setTop (mkF m 116 #[.val (.int p1), .val (.int p2), .val (.int p3), .val (.int (4 : Int32)), .val (.ref w5), .val (.int (0 : Int32)), .val (.int (1 : Int32)), .val (.int (255 : Int32)), .val (.int (128 : Int32)), .val (.int ru), .val (.int ru)] [(.int r20)]))
    refine own_st (fun t k => XS.iload X20.here hx rfl (hb hby at_116) rfl k) ?_
    show own_Go p e below K (T20.setTop (mkF m 118 #[.val (.int p1), .val (.int p2), .val (.int p3), .val (.int (4 : Int32)), .val (.ref w5), .val (.int (0 : Int32)), .val (.int (1 : Int32)), .val (.int (255 : Int32)), .val (.int (128 : Int32)), .val (.int ru), .val (.int ru)] [(.int ru), (.int r20)]))
    refine own_st (fun t k => XS.icmpNo X20.here hx rfl (hb hby at_118) rfl (teq (hr20.trans (own_u _ _) : r20 = ru)).2 k) ?_
    show own_Go p e below K (T20.setTop (mkF m 121 #[.val (.int p1), .val (.int p2), .val (.int p3), .val (.int (4 : Int32)), .val (.ref w5), .val (.int (0 : Int32)), .val (.int (1 : Int32)), .val (.int (255 : Int32)), .val (.int (128 : Int32)), .val (.int ru), .val (.int ru)] []))
    refine own_st (fun t k => XS.iconst X20.here hx rfl (hb hby at_121) k) ?_
    show own_Go p e below K (T20.setTop (mkF m 122 #[.val (.int p1), .val (.int p2), .val (.int p3), .val (.int (4 : Int32)), .val (.ref w5), .val (.int (0 : Int32)), .val (.int (1 : Int32)), .val (.int (255 : Int32)), .val (.int (128 : Int32)), .val (.int ru), .val (.int ru)] [(.int (1 : Int32))]))
    refine own_st (fun t k => XS.goto X20.here hx rfl (pc0 := 122) (pc' := 126) rfl (hb hby at_122) (by decide) (by decide) k) ?_
    show own_Go p e below K (T20.setTop (mkF m 126 #[.val (.int p1), .val (.int p2), .val (.int p3), .val (.int (4 : Int32)), .val (.ref w5), .val (.int (0 : Int32)), .val (.int (1 : Int32)), .val (.int (255 : Int32)), .val (.int (128 : Int32)), .val (.int ru), .val (.int ru)] [(.int (1 : Int32))]))
    obtain ⟨fs, hr, hrun, hended, hW, hsame⟩ := X20.leave (v := some (.int (nar .boolean (1 : Int32)))) (fun h => by rw [Bd.returns] at h; cases h)
    refine ⟨_, retN X20 hx (t := .boolean) Bd.returns (by simp) (hb hby at_126) hr, fin _ _ _ hrun hended ?_ ⟨⟨_, rfl⟩, hW, hsame.mono (by decide) (by decide)⟩⟩
    show Q0 Z p1 p2 p3 w1 w2 w3 w4 w5 h0 n0 _ T20.heap _
    rw [e20]
    exact ⟨rfl, N20⟩
  subst hs
  show own_Go p e below K (T19.setTop (mkF m 39 #[.val (.int p1), .val (.int p2), .val (.int p3), .val (.int (4 : Int32)), .val (.ref w5), .val (.int (0 : Int32)), .unset, .unset, .unset, .unset, .unset] [(.int (2 : Int32))]))
  refine own_st (fun t k => XS.istore X19.here hx rfl (hb hby at_39) rfl (l' := #[.val (.int p1), .val (.int p2), .val (.int p3), .val (.int (4 : Int32)), .val (.ref w5), .val (.int (0 : Int32)), .val (.int (2 : Int32)), .unset, .unset, .unset, .unset]) rfl k) ?_
  show own_Go p e below K (T19.setTop (mkF m 41 #[.val (.int p1), .val (.int p2), .val (.int p3), .val (.int (4 : Int32)), .val (.ref w5), .val (.int (0 : Int32)), .val (.int (2 : Int32)), .unset, .unset, .unset, .unset] []))
  refine own_st (fun t k => XS.iload X19.here hx rfl (hb hby at_41) rfl k) ?_
  show own_Go p e below K (T19.setTop (mkF m 43 #[.val (.int p1), .val (.int p2), .val (.int p3), .val (.int (4 : Int32)), .val (.ref w5), .val (.int (0 : Int32)), .val (.int (2 : Int32)), .unset, .unset, .unset, .unset] [(.int (2 : Int32))]))
  refine own_st (fun t k => XS.iconst X19.here hx rfl (hb hby at_43) k) ?_
  show own_Go p e below K (T19.setTop (mkF m 44 #[.val (.int p1), .val (.int p2), .val (.int p3), .val (.int (4 : Int32)), .val (.ref w5), .val (.int (0 : Int32)), .val (.int (2 : Int32)), .unset, .unset, .unset, .unset] [(.int (1 : Int32)), (.int (2 : Int32))]))
  refine own_st (fun t k => XS.icmpYes X19.here hx rfl (pc0 := 44) (pc' := 53) rfl (hb hby at_44) rfl (feq (by decide : ¬ ((2 : Int32) = (1 : Int32)))).2 (by decide) (by decide) k) ?_
  show own_Go p e below K (T19.setTop (mkF m 53 #[.val (.int p1), .val (.int p2), .val (.int p3), .val (.int (4 : Int32)), .val (.ref w5), .val (.int (0 : Int32)), .val (.int (2 : Int32)), .unset, .unset, .unset, .unset] []))
  refine own_st (X19.ldcInt hx hown (mvT hZ (hw _ (List.mem_of_getElem? (i := 8) rfl))) (g := (mkF m 53 #[.val (.int p1), .val (.int p2), .val (.int p3), .val (.int (4 : Int32)), .val (.ref w5), .val (.int (0 : Int32)), .val (.int (2 : Int32)), .unset, .unset, .unset, .unset] [])) rfl (hb hby at_53)) ?_
  show own_Go p e below K (T19.setTop (mkF m 55 #[.val (.int p1), .val (.int p2), .val (.int p3), .val (.int (4 : Int32)), .val (.ref w5), .val (.int (0 : Int32)), .val (.int (2 : Int32)), .unset, .unset, .unset, .unset] [(.int (65535 : Int32))]))
  refine own_st (fun t k => XS.istore X19.here hx rfl (hb hby at_55) rfl (l' := #[.val (.int p1), .val (.int p2), .val (.int p3), .val (.int (4 : Int32)), .val (.ref w5), .val (.int (0 : Int32)), .val (.int (2 : Int32)), .val (.int (65535 : Int32)), .unset, .unset, .unset]) rfl k) ?_
  show own_Go p e below K (T19.setTop (mkF m 57 #[.val (.int p1), .val (.int p2), .val (.int p3), .val (.int (4 : Int32)), .val (.ref w5), .val (.int (0 : Int32)), .val (.int (2 : Int32)), .val (.int (65535 : Int32)), .unset, .unset, .unset] []))
  refine own_st (fun t k => XS.iload X19.here hx rfl (hb hby at_57) rfl k) ?_
  show own_Go p e below K (T19.setTop (mkF m 59 #[.val (.int p1), .val (.int p2), .val (.int p3), .val (.int (4 : Int32)), .val (.ref w5), .val (.int (0 : Int32)), .val (.int (2 : Int32)), .val (.int (65535 : Int32)), .unset, .unset, .unset] [(.int (2 : Int32))]))
  refine own_st (fun t k => XS.iconst X19.here hx rfl (hb hby at_59) k) ?_
  show own_Go p e below K (T19.setTop (mkF m 60 #[.val (.int p1), .val (.int p2), .val (.int p3), .val (.int (4 : Int32)), .val (.ref w5), .val (.int (0 : Int32)), .val (.int (2 : Int32)), .val (.int (65535 : Int32)), .unset, .unset, .unset] [(.int (1 : Int32)), (.int (2 : Int32))]))
  refine own_st (fun t k => XS.icmpYes X19.here hx rfl (pc0 := 60) (pc' := 69) rfl (hb hby at_60) rfl (feq (by decide : ¬ ((2 : Int32) = (1 : Int32)))).2 (by decide) (by decide) k) ?_
  show own_Go p e below K (T19.setTop (mkF m 69 #[.val (.int p1), .val (.int p2), .val (.int p3), .val (.int (4 : Int32)), .val (.ref w5), .val (.int (0 : Int32)), .val (.int (2 : Int32)), .val (.int (65535 : Int32)), .unset, .unset, .unset] []))
  refine own_st (X19.ldcInt hx hown (mvT hZ (hw _ (List.mem_of_getElem? (i := 9) rfl))) (g := (mkF m 69 #[.val (.int p1), .val (.int p2), .val (.int p3), .val (.int (4 : Int32)), .val (.ref w5), .val (.int (0 : Int32)), .val (.int (2 : Int32)), .val (.int (65535 : Int32)), .unset, .unset, .unset] [])) rfl (hb hby at_69)) ?_
  show own_Go p e below K (T19.setTop (mkF m 71 #[.val (.int p1), .val (.int p2), .val (.int p3), .val (.int (4 : Int32)), .val (.ref w5), .val (.int (0 : Int32)), .val (.int (2 : Int32)), .val (.int (65535 : Int32)), .unset, .unset, .unset] [(.int (32768 : Int32))]))
  refine own_st (fun t k => XS.istore X19.here hx rfl (hb hby at_71) rfl (l' := #[.val (.int p1), .val (.int p2), .val (.int p3), .val (.int (4 : Int32)), .val (.ref w5), .val (.int (0 : Int32)), .val (.int (2 : Int32)), .val (.int (65535 : Int32)), .val (.int (32768 : Int32)), .unset, .unset]) rfl k) ?_
  show own_Go p e below K (T19.setTop (mkF m 73 #[.val (.int p1), .val (.int p2), .val (.int p3), .val (.int (4 : Int32)), .val (.ref w5), .val (.int (0 : Int32)), .val (.int (2 : Int32)), .val (.int (65535 : Int32)), .val (.int (32768 : Int32)), .unset, .unset] []))
  refine own_st (fun t k => XS.iloadN X19.here hx rfl (hb hby at_73) rfl k) ?_
  show own_Go p e below K (T19.setTop (mkF m 74 #[.val (.int p1), .val (.int p2), .val (.int p3), .val (.int (4 : Int32)), .val (.ref w5), .val (.int (0 : Int32)), .val (.int (2 : Int32)), .val (.int (65535 : Int32)), .val (.int (32768 : Int32)), .unset, .unset] [(.int p3)]))
  refine own_st (fun t k => XS.iload X19.here hx rfl (hb hby at_74) rfl k) ?_
  show own_Go p e below K (T19.setTop (mkF m 76 #[.val (.int p1), .val (.int p2), .val (.int p3), .val (.int (4 : Int32)), .val (.ref w5), .val (.int (0 : Int32)), .val (.int (2 : Int32)), .val (.int (65535 : Int32)), .val (.int (32768 : Int32)), .unset, .unset] [(.int (65535 : Int32)), (.int p3)]))
  refine own_st (fun t k => XS.iand X19.here hx rfl (hb hby at_76) rfl k) ?_
  show own_Go p e below K (T19.setTop (mkF m 77 #[.val (.int p1), .val (.int p2), .val (.int p3), .val (.int (4 : Int32)), .val (.ref w5), .val (.int (0 : Int32)), .val (.int (2 : Int32)), .val (.int (65535 : Int32)), .val (.int (32768 : Int32)), .unset, .unset] [(.int (p3 &&& (65535 : Int32)))]))
  generalize hru : (p3 &&& (65535 : Int32)) = ru
  show own_Go p e below K (T19.setTop (mkF m 77 #[.val (.int p1), .val (.int p2), .val (.int p3), .val (.int (4 : Int32)), .val (.ref w5), .val (.int (0 : Int32)), .val (.int (2 : Int32)), .val (.int (65535 : Int32)), .val (.int (32768 : Int32)), .unset, .unset] [(.int ru)]))
  refine own_st (fun t k => XS.istore X19.here hx rfl (hb hby at_77) rfl (l' := #[.val (.int p1), .val (.int p2), .val (.int p3), .val (.int (4 : Int32)), .val (.ref w5), .val (.int (0 : Int32)), .val (.int (2 : Int32)), .val (.int (65535 : Int32)), .val (.int (32768 : Int32)), .val (.int ru), .unset]) rfl k) ?_
  show own_Go p e below K (T19.setTop (mkF m 79 #[.val (.int p1), .val (.int p2), .val (.int p3), .val (.int (4 : Int32)), .val (.ref w5), .val (.int (0 : Int32)), .val (.int (2 : Int32)), .val (.int (65535 : Int32)), .val (.int (32768 : Int32)), .val (.int ru), .unset] []))
  refine own_st (fun t k => XS.iload X19.here hx rfl (hb hby at_79) rfl k) ?_
  show own_Go p e below K (T19.setTop (mkF m 81 #[.val (.int p1), .val (.int p2), .val (.int p3), .val (.int (4 : Int32)), .val (.ref w5), .val (.int (0 : Int32)), .val (.int (2 : Int32)), .val (.int (65535 : Int32)), .val (.int (32768 : Int32)), .val (.int ru), .unset] [(.int (0 : Int32))]))
  refine own_st (fun t k => XS.ifYes X19.here hx rfl (pc0 := 81) (pc' := 103) rfl (hb hby at_81) rfl ((if0 _ _).trans (teq (by decide : (0 : Int32) = (0 : Int32))).1) (by decide) (by decide) k) ?_
  show own_Go p e below K (T19.setTop (mkF m 103 #[.val (.int p1), .val (.int p2), .val (.int p3), .val (.int (4 : Int32)), .val (.ref w5), .val (.int (0 : Int32)), .val (.int (2 : Int32)), .val (.int (65535 : Int32)), .val (.int (32768 : Int32)), .val (.int ru), .unset] []))
  refine own_st (fun t k => XS.iload X19.here hx rfl (hb hby at_103) rfl k) ?_
  show own_Go p e below K (T19.setTop (mkF m 105 #[.val (.int p1), .val (.int p2), .val (.int p3), .val (.int (4 : Int32)), .val (.ref w5), .val (.int (0 : Int32)), .val (.int (2 : Int32)), .val (.int (65535 : Int32)), .val (.int (32768 : Int32)), .val (.int ru), .unset] [(.int ru)]))
  refine own_st (fun t k => XS.istore X19.here hx rfl (hb hby at_105) rfl (l' := #[.val (.int p1), .val (.int p2), .val (.int p3), .val (.int (4 : Int32)), .val (.ref w5), .val (.int (0 : Int32)), .val (.int (2 : Int32)), .val (.int (65535 : Int32)), .val (.int (32768 : Int32)), .val (.int ru), .val (.int ru)]) rfl k) ?_
  show own_Go p e below K (T19.setTop (mkF m 107 #[.val (.int p1), .val (.int p2), .val (.int p3), .val (.int (4 : Int32)), .val (.ref w5), .val (.int (0 : Int32)), .val (.int (2 : Int32)), .val (.int (65535 : Int32)), .val (.int (32768 : Int32)), .val (.int ru), .val (.int ru)] []))
  refine own_st (fun t k => XS.aload X19.here hx rfl (hb hby at_107) rfl rfl k) ?_
  show own_Go p e below K (T19.setTop (mkF m 109 #[.val (.int p1), .val (.int p2), .val (.int p3), .val (.int (4 : Int32)), .val (.ref w5), .val (.int (0 : Int32)), .val (.int (2 : Int32)), .val (.int (65535 : Int32)), .val (.int (32768 : Int32)), .val (.int ru), .val (.int ru)] [(.ref w5)]))
  refine own_st (fun t k => XS.iload X19.here hx rfl (hb hby at_109) rfl k) ?_
  show own_Go p e below K (T19.setTop (mkF m 111 #[.val (.int p1), .val (.int p2), .val (.int p3), .val (.int (4 : Int32)), .val (.ref w5), .val (.int (0 : Int32)), .val (.int (2 : Int32)), .val (.int (65535 : Int32)), .val (.int (32768 : Int32)), .val (.int ru), .val (.int ru)] [(.int ru), (.ref w5)]))
  refine own_st (fun t k => XS.iload X19.here hx rfl (hb hby at_111) rfl k) ?_
  show own_Go p e below K (T19.setTop (mkF m 113 #[.val (.int p1), .val (.int p2), .val (.int p3), .val (.int (4 : Int32)), .val (.ref w5), .val (.int (0 : Int32)), .val (.int (2 : Int32)), .val (.int (65535 : Int32)), .val (.int (32768 : Int32)), .val (.int ru), .val (.int ru)] [(.int (2 : Int32)), (.int ru), (.ref w5)]))
  obtain ⟨cq21, kq21, qv21a, qv21b, qv21c⟩ := isOf hZ e19 P9
  obtain ⟨_, _, ⟨T21, L21, k21, n21⟩, -, X21, ⟨Lc21, hQ21, l21, y21, z21⟩, st21⟩ := X19.virtualBack hx (y := (⟨"com/example/micrologue/micrologue/OperandKind", "value", "(II)I"⟩ : MethodName)) (z := (⟨"com/example/micrologue/micrologue/OperandKind", "value", "(II)I"⟩ : MethodName)) hown (mvT hZ (hw _ (List.mem_of_getElem? (i := 10) rfl))) (mvT hZ (hw _ (List.mem_of_getElem? (i := 11) rfl))) (notFace_of_selects (args := #[]) (mvT hZ (hw _ (List.mem_of_getElem? (i := 13) rfl)))) (mvT hZ (hw _ (List.mem_of_getElem? (i := 13) rfl))) (mvT hZ (hw _ (List.mem_of_getElem? (i := 12) rfl))) (by decide) (backOf (W := 0) (rm2 l Z a0 hw [] w5 ru (2 : Int32) ((0 : Int32)) h0 n0 Z0 P14) hZ (hw _ (List.mem_of_getElem? (i := 14) rfl)) (hw _ (List.mem_of_getElem? (i := 6) rfl)) (by decide) (by decide)) qv21a qv21c (g := (mkF m 113 #[.val (.int p1), .val (.int p2), .val (.int p3), .val (.int (4 : Int32)), .val (.ref w5), .val (.int (0 : Int32)), .val (.int (2 : Int32)), .val (.int (65535 : Int32)), .val (.int (32768 : Int32)), .val (.int ru), .val (.int ru)] [(.int (2 : Int32)), (.int ru), (.ref w5)])) rfl (by rw [hml]; rfl) (Steps.refl _) (argsL := [(.int ru), (.int (2 : Int32))]) (rest := []) (lenOf pd_0_1 rfl) rfl (by show 2 * 0 + _ ≤ _; exact Nat.le_of_eq rfl) (hb hby at_113) (fun _ _ => ⟨rfl, e19, (by decide : 0 + 0 ≤ _), (by decide : 0 + 0 ≤ _)⟩)
  dsimp only [Pt.U, Pt.locs, Pt.cells, Pt.slots] at X21 l21 y21 z21 st21 hQ21
  subst l21 y21 z21
  obtain ⟨r21, rfl, hr21, N21q, e21⟩ := hQ21
  have N21 := Fr.app N19 N21q
  refine own_tr st21 ?_
  show own_Go p e below K (T21.setTop (mkF m 116 #[.val (.int p1), .val (.int p2), .val (.int p3), .val (.int (4 : Int32)), .val (.ref w5), .val (.int (0 : Int32)), .val (.int (2 : Int32)), .val (.int (65535 : Int32)), .val (.int (32768 : Int32)), .val (.int ru), .val (.int ru)] [(.int r21)]))
  refine own_st (fun t k => XS.iload X21.here hx rfl (hb hby at_116) rfl k) ?_
  show own_Go p e below K (T21.setTop (mkF m 118 #[.val (.int p1), .val (.int p2), .val (.int p3), .val (.int (4 : Int32)), .val (.ref w5), .val (.int (0 : Int32)), .val (.int (2 : Int32)), .val (.int (65535 : Int32)), .val (.int (32768 : Int32)), .val (.int ru), .val (.int ru)] [(.int ru), (.int r21)]))
  refine own_st (fun t k => XS.icmpNo X21.here hx rfl (hb hby at_118) rfl (teq (hr21.trans (own_u _ _) : r21 = ru)).2 k) ?_
  show own_Go p e below K (T21.setTop (mkF m 121 #[.val (.int p1), .val (.int p2), .val (.int p3), .val (.int (4 : Int32)), .val (.ref w5), .val (.int (0 : Int32)), .val (.int (2 : Int32)), .val (.int (65535 : Int32)), .val (.int (32768 : Int32)), .val (.int ru), .val (.int ru)] []))
  refine own_st (fun t k => XS.iconst X21.here hx rfl (hb hby at_121) k) ?_
  show own_Go p e below K (T21.setTop (mkF m 122 #[.val (.int p1), .val (.int p2), .val (.int p3), .val (.int (4 : Int32)), .val (.ref w5), .val (.int (0 : Int32)), .val (.int (2 : Int32)), .val (.int (65535 : Int32)), .val (.int (32768 : Int32)), .val (.int ru), .val (.int ru)] [(.int (1 : Int32))]))
  refine own_st (fun t k => XS.goto X21.here hx rfl (pc0 := 122) (pc' := 126) rfl (hb hby at_122) (by decide) (by decide) k) ?_
  show own_Go p e below K (T21.setTop (mkF m 126 #[.val (.int p1), .val (.int p2), .val (.int p3), .val (.int (4 : Int32)), .val (.ref w5), .val (.int (0 : Int32)), .val (.int (2 : Int32)), .val (.int (65535 : Int32)), .val (.int (32768 : Int32)), .val (.int ru), .val (.int ru)] [(.int (1 : Int32))]))
  obtain ⟨fs, hr, hrun, hended, hW, hsame⟩ := X21.leave (v := some (.int (nar .boolean (1 : Int32)))) (fun h => by rw [Bd.returns] at h; cases h)
  refine ⟨_, retN X21 hx (t := .boolean) Bd.returns (by simp) (hb hby at_126) hr, fin _ _ _ hrun hended ?_ ⟨⟨_, rfl⟩, hW, hsame.mono (by decide) (by decide)⟩⟩
  show Q0 Z p1 p2 p3 w1 w2 w3 w4 w5 h0 n0 _ T21.heap _
  rw [e21]
  exact ⟨rfl, N21⟩
set_option maxRecDepth 65536 in
set_option maxHeartbeats 40000000 in
theorem comes_1 {Post : Tables → Env → Array Value → State → Outcome → State → Prop} (hpost : ∀ tb e args s v u, (limb_1_1.after args s (.returned v) u = true ∧ limb_1_2.after args s (.returned v) u = true ∧ True) → FrameEnd s (.returned v) u (Jvm.fieldLocs frame_1_writes args s ++ Jvm.arrayLocs frame_1_arrays args s ++ Jvm.staticLocs frame_1_statics s) 0 0 → Post tb e args s (.returned v) u) :
    ArmFor flags0 classFile x code maxLocals ret World_1 tables_1 room_1 Calls_1 rest_1 Pre_1 Post := by
  intro l hfl _ _ p e ha hc hk s m args below hf hA hF happ hP
  obtain ⟨hcalls, hrest, hpre⟩ := hP
  obtain ⟨-, -, -, hnamed, -, -, -, hat⟩ := (Spec.applies_iff hf).mp happ
  obtain ⟨hg, hn⟩ := and_e (Cond.before_iff.mp (show (Jvm.Cond.and given_1 narrow_1).before args s = true from hpre))
  obtain ⟨g1, g2⟩ := and_e hg
  obtain ⟨g3, g4⟩ := and_e g2
  obtain ⟨g5, g6⟩ := and_e g4
  obtain ⟨w0, w1, w2, rfl⟩ : ∃ w0 w1 w2 : Value, args = #[w0, w1, w2] := by
    have hs : args.size = 3 := by simpa [Cond.value, given_1] using g1
    obtain ⟨L⟩ := args
    match L, hs with
    | [w0, w1, w2], _ => exact ⟨w0, w1, w2, rfl⟩
  have hw := fun d (hd : d ∈ tables_1) => atoms_spec (ws := Jvm.Cond.code x code maxLocals ret :: tables_1) hat d (List.mem_cons_of_mem _ hd)
  have hfit : Fit s := fun {y c} hc i hi => by
    obtain ⟨ha, rfl⟩ := Array.getElem?_eq_some_iff.mp hc
    have q := List.all_eq_true.mp ((Array.all_eq_true_iff_forall_mem.mp hF) _ (Array.getElem_mem ha)) i (List.mem_range.mpr hi)
    simpa [Array.getElem?_eq_getElem hi] using q
  obtain ⟨i0, ei0⟩ := is_v g3
  obtain rfl : w0 = (.int i0) := Option.some.inj ei0
  obtain ⟨i1, ei1⟩ := is_v g5
  obtain rfl : w1 = (.int i1) := Option.some.inj ei1
  obtain ⟨i2, ei2⟩ := is_v g6
  obtain rfl : w2 = (.int i2) := Option.some.inj ei2
  obtain ⟨nxBYTE, m0⟩ := and_e hn
  obtain ⟨nfBYTE, m1⟩ := and_e m0
  obtain ⟨nxCONST, m2⟩ := and_e m1
  obtain ⟨nfCONST, m3⟩ := and_e m2
  obtain ⟨nxINDEX, m4⟩ := and_e m3
  obtain ⟨nfINDEX, m5⟩ := and_e m4
  obtain ⟨nxOFFSET, m6⟩ := and_e m5
  obtain ⟨nfOFFSET, m7⟩ := and_e m6
  obtain ⟨nxVARNUM, m8⟩ := and_e m7
  have nfVARNUM := m8
  obtain ⟨wBYTE, evBYTE⟩ := exa_v nxBYTE
  have SBYTE := Sta.start evBYTE (Or.inr ⟨(hw _ (List.mem_of_getElem? (i := 6) rfl)), (hw _ (List.mem_of_getElem? (i := 7) rfl))⟩)
  have EBYTE := Exa.start evBYTE nxBYTE
  have FBYTE := Fld.start (own_fld evBYTE nfBYTE)
  obtain ⟨wCONST, evCONST⟩ := exa_v nxCONST
  have SCONST := Sta.start evCONST (Or.inr ⟨(hw _ (List.mem_of_getElem? (i := 6) rfl)), (hw _ (List.mem_of_getElem? (i := 18) rfl))⟩)
  have ECONST := Exa.start evCONST nxCONST
  have FCONST := Fld.start (own_fld evCONST nfCONST)
  obtain ⟨wVARNUM, evVARNUM⟩ := exa_v nxVARNUM
  have SVARNUM := Sta.start evVARNUM (Or.inr ⟨(hw _ (List.mem_of_getElem? (i := 6) rfl)), (hw _ (List.mem_of_getElem? (i := 24) rfl))⟩)
  have EVARNUM := Exa.start evVARNUM nxVARNUM
  have FVARNUM := Fld.start (own_fld evVARNUM nfVARNUM)
  obtain ⟨wOFFSET, evOFFSET⟩ := exa_v nxOFFSET
  have SOFFSET := Sta.start evOFFSET (Or.inr ⟨(hw _ (List.mem_of_getElem? (i := 6) rfl)), (hw _ (List.mem_of_getElem? (i := 22) rfl))⟩)
  have EOFFSET := Exa.start evOFFSET nxOFFSET
  have FOFFSET := Fld.start (own_fld evOFFSET nfOFFSET)
  obtain ⟨wINDEX, evINDEX⟩ := exa_v nxINDEX
  have SINDEX := Sta.start evINDEX (Or.inr ⟨(hw _ (List.mem_of_getElem? (i := 6) rfl)), (hw _ (List.mem_of_getElem? (i := 20) rfl))⟩)
  have EINDEX := Exa.start evINDEX nxINDEX
  have FINDEX := Fld.start (own_fld evINDEX nfINDEX)
  obtain ⟨n, o, h1, h2, h3, _, L, rfl, ⟨rfl, N⟩, hq⟩ := rm0 l s _ hw tables_1 i0 i1 i2 wBYTE wCONST wVARNUM wOFFSET wINDEX s.heap s.heap.size (Nat.le_refl _) SBYTE SCONST SVARNUM SOFFSET SINDEX EBYTE ECONST EVARNUM EOFFSET EINDEX FBYTE FCONST FVARNUM FOFFSET FINDEX p e ha hc hk s m _ below hf ((Spec.applies_iff_loose hf).mp happ).1 ⟨rfl, State.Warmed39.refl s, rfl⟩ trivial
  refine ⟨n, _, h1, h2, h3, hpost _ _ _ _ _ _ ⟨Cond.after_iff.mpr rfl, Cond.after_iff.mpr (eq_i res_at (Term.int_eval (1)) rfl), trivial⟩ ⟨hq.1, hq.2.1, (hq.2.2.sift fun y hy => Or.inr (N y hy)).mono (by decide) (by decide)⟩⟩
theorem main_1_1 : Claimed_1_1 := comes_1 fun _ _ _ _ _ _ h hF => ⟨h.1, hF⟩
theorem main_1_2 : Claimed_1_2 := comes_1 fun _ _ _ _ _ _ h hF => ⟨h.2.1, hF⟩
end Jvm.Pilot.@@N@@
namespace Jvm.Pilot.@@N@@
open Jvm Jvm.ClassFile Sem Op Lib Jvm.Free Jvm.Stand Jvm.Pilot.@@N@@.Jvm.D
/-! MADE BY PROGRAM (witnessworld.py) out of the Statement's table words and the real class files: 12 classes; the members and pool entries that the words name. The judged class is class 1, her method 2. -/
namespace start1
open Jvm.ClassFile
def u (s : String) : CpInfo := .utf8 (stringToUtf16 s)
/-- a pool by its gaps: so many unusable entries, then the entry; so many at the end -/
def gap : Nat → List CpInfo → List CpInfo
  | 0, r => r
  | n + 1, r => .unusable :: gap n r
def poolList (es : List (Nat × CpInfo)) (last : Nat) : List CpInfo := es.foldr (fun e r => gap e.1 (e.2 :: r)) (gap last [])
def pool (es : List (Nat × CpInfo)) (last : Nat) : Array CpInfo := ⟨poolList es last⟩
def fileOf (pool : Array CpInfo) (this : Nat) (attrs : Array Attribute := #[]) (ms : Array MethodInfo := #[]) (fl : Nat := 33) (sup : Nat := 0) (ifs : Array Nat := #[]) (fds : Array FieldInfo := #[]) : ClassFile where
  minorVersion := 0
  majorVersion := 65
  constantPool := pool
  accessFlags := fl
  thisClass := this
  superClass := sup
  interfaces := ifs
  fields := fds
  methods := ms
  attributes := attrs
def plain (name : String) (sup : Option ClassId) : Class where
  name := name
  kind := .ordinary
  loader := none
  accessFlags := 33
  super := sup
  interfaces := #[]
  cf := none
  fields := #[]
  methods := #[]
  instanceTypes := #[]
  staticTypes := #[]
  resolved := #[]
  callSites := []
  init := .initialized
  statics := none
  mirror := none

def pool0 : Array CpInfo := pool [(5, u "<init>"), (0, u "()V"), (1, .class_ 10), (1, u "java/lang/Object")] 113

def k0m0 : Method := { name := "<init>", desc := "()V", sig := { parameters := [], returnType := none }, accessFlags := 1, code := none }
/-- java/lang/Object -/
def k0 : Class := { plain "java/lang/Object" none with
  accessFlags := 33
  interfaces := #[]
  cf := some (fileOf pool0 8 #[] #[{ accessFlags := 1, nameIndex := 5, descriptorIndex := 6, attributes := #[] }] 33 0 #[] #[])
  fields := #[]
  methods := #[k0m0]
  instanceTypes := #[]
  staticTypes := #[]
  resolved := Array.replicate 124 none
  statics := none }

def pool1 : Array CpInfo := pool [(2, .class_ 4), (1, u "java/lang/Object"), (0, u "<init>"), (0, u "()V"), (0, .fieldref 8 9), (0, .class_ 10), (0, .nameAndType 11 12), (0, u "com/example/micrologue/micrologue/OperandKind"), (0, u "BYTE"), (0, u "Lcom/example/micrologue/micrologue/OperandKind;"), (0, .fieldref 8 14), (0, .nameAndType 15 12), (0, u "CONST"), (0, .fieldref 8 17), (0, .nameAndType 18 12), (0, u "VARNUM"), (0, .fieldref 8 20), (0, .nameAndType 21 12), (0, u "OFFSET"), (0, .fieldref 8 23), (0, .nameAndType 24 12), (0, u "INDEX"), (0, .integer 2147483647), (0, .methodref 27 28), (0, .class_ 29), (0, .nameAndType 30 31), (0, u "com/example/micrologue/micrologue/OperandKindValuePinLaw"), (0, u "kindOf"), (0, u "(I)Lcom/example/micrologue/micrologue/OperandKind;"), (0, .integer 65535), (0, .integer 32768), (0, .methodref 8 35), (0, .nameAndType 36 37), (0, u "value"), (0, u "(II)I"), (3, u "law"), (0, u "(III)Z")] 2

def k1m0 : Method := { name := "<init>", desc := "()V", sig := { parameters := [], returnType := none }, accessFlags := 1, code := none }
def k1c1 : Code := { maxStack := 2, maxLocals := 1, code := method_2_code, exceptionTable := #[], attributes := #[] }
def k1m1 : Method := { name := "kindOf", desc := "(I)Lcom/example/micrologue/micrologue/OperandKind;", sig := { parameters := [.int], returnType := some (.object "com/example/micrologue/micrologue/OperandKind") }, accessFlags := 10, code := some k1c1 }
def k1c2 : Code := { maxStack := 3, maxLocals := 11, code := code, exceptionTable := #[], attributes := #[] }
def k1m2 : Method := { name := "law", desc := "(III)Z", sig := { parameters := [.int, .int, .int], returnType := some .boolean }, accessFlags := 9, code := some k1c2 }
/-- com/example/micrologue/micrologue/OperandKindValuePinLaw -/
def k1 : Class := { plain "com/example/micrologue/micrologue/OperandKindValuePinLaw" (some 0) with
  accessFlags := 49
  interfaces := #[]
  cf := some (fileOf pool1 27 #[] #[{ accessFlags := 1, nameIndex := 5, descriptorIndex := 6, attributes := #[] }, { accessFlags := 10, nameIndex := 30, descriptorIndex := 31, attributes := #[] }, { accessFlags := 9, nameIndex := 41, descriptorIndex := 42, attributes := #[] }] 49 2 #[] #[])
  fields := #[]
  methods := #[k1m0, k1m1, k1m2]
  instanceTypes := #[]
  staticTypes := #[]
  resolved := Array.replicate 45 none
  statics := none }

def pool2 : Array CpInfo := pool [(1, .class_ 2), (0, u "java/lang/constant/Constable"), (0, .class_ 4), (0, u "java/lang/Object")] 6

/-- java/lang/constant/Constable -/
def k2 : Class := { plain "java/lang/constant/Constable" (some 0) with
  accessFlags := 1537
  interfaces := #[]
  cf := some (fileOf pool2 1 #[] #[] 1537 3 #[] #[])
  fields := #[]
  methods := #[]
  instanceTypes := #[]
  staticTypes := #[]
  resolved := Array.replicate 11 none
  statics := none }

def pool3 : Array CpInfo := pool [(1, .class_ 2), (0, u "java/lang/Comparable"), (0, .class_ 4), (0, u "java/lang/Object")] 7

/-- java/lang/Comparable -/
def k3 : Class := { plain "java/lang/Comparable" (some 0) with
  accessFlags := 1537
  interfaces := #[]
  cf := some (fileOf pool3 1 #[] #[] 1537 3 #[] #[])
  fields := #[]
  methods := #[]
  instanceTypes := #[]
  staticTypes := #[]
  resolved := Array.replicate 12 none
  statics := none }

def pool4 : Array CpInfo := pool [(1, .class_ 2), (0, u "java/io/Serializable"), (0, .class_ 4), (0, u "java/lang/Object")] 2

/-- java/io/Serializable -/
def k4 : Class := { plain "java/io/Serializable" (some 0) with
  accessFlags := 1537
  interfaces := #[]
  cf := some (fileOf pool4 1 #[] #[] 1537 3 #[] #[])
  fields := #[]
  methods := #[]
  instanceTypes := #[]
  staticTypes := #[]
  resolved := Array.replicate 7 none
  statics := none }

def pool5 : Array CpInfo := pool [(2, .class_ 4), (1, u "java/lang/Enum"), (0, u "name"), (0, u "Ljava/lang/String;"), (2, u "ordinal"), (0, u "I"), (1, .class_ 14), (1, u "java/lang/Object"), (4, u "hash"), (86, .class_ 108), (1, u "java/lang/Enum$EnumDesc"), (2, .class_ 112), (0, u "java/lang/constant/Constable"), (0, .class_ 114), (0, u "java/lang/Comparable"), (0, .class_ 116), (0, u "java/io/Serializable")] 87

/-- java/lang/Enum -/
def k5 : Class := { plain "java/lang/Enum" (some 0) with
  accessFlags := 1057
  interfaces := #[2, 3, 4]
  cf := some (fileOf pool5 2 #[.nestMembers #[106]] #[] 1057 12 #[111, 113, 115] #[{ accessFlags := 18, nameIndex := 5, descriptorIndex := 6, attributes := #[] }, { accessFlags := 18, nameIndex := 9, descriptorIndex := 10, attributes := #[] }, { accessFlags := 2, nameIndex := 19, descriptorIndex := 10, attributes := #[] }])
  fields := #[{ name := "name", type := (.object "java/lang/String"), accessFlags := 18, slot := 0, constantValue := 0 }, { name := "ordinal", type := .int, accessFlags := 18, slot := 1, constantValue := 0 }, { name := "hash", type := .int, accessFlags := 2, slot := 2, constantValue := 0 }]
  methods := #[]
  instanceTypes := #[(.object "java/lang/String"), .int, .int]
  staticTypes := #[]
  resolved := Array.replicate 204 none
  statics := none }

def pool6 : Array CpInfo := pool [(1, .class_ 2), (0, u "com/example/micrologue/micrologue/OperandKind"), (2, u "BYTE"), (0, u "Lcom/example/micrologue/micrologue/OperandKind;"), (2, u "CONST"), (2, u "VARNUM"), (2, u "OFFSET"), (2, u "INDEX"), (2, u "$VALUES"), (0, u "[Lcom/example/micrologue/micrologue/OperandKind;"), (6, .class_ 31), (1, u "java/lang/Enum"), (8, u "size"), (0, u "I"), (2, u "wideSize"), (0, .fieldref 1 46), (0, .nameAndType 47 48), (0, u "signed"), (0, u "Z"), (43, u "value"), (0, u "(II)I")] 5

def k6c0 : Code := { maxStack := 3, maxLocals := 4, code := prog_75_method_8_code, exceptionTable := #[], attributes := #[] }
def k6m0 : Method := { name := "value", desc := "(II)I", sig := { parameters := [.int, .int], returnType := some .int }, accessFlags := 1, code := some k6c0 }
/-- com/example/micrologue/micrologue/OperandKind -/
def k6 : Class := { plain "com/example/micrologue/micrologue/OperandKind" (some 5) with
  accessFlags := 16433
  interfaces := #[]
  cf := some (fileOf pool6 1 #[] #[{ accessFlags := 1, nameIndex := 92, descriptorIndex := 93, attributes := #[] }] 16433 29 #[] #[{ accessFlags := 16409, nameIndex := 5, descriptorIndex := 6, attributes := #[] }, { accessFlags := 16409, nameIndex := 9, descriptorIndex := 6, attributes := #[] }, { accessFlags := 16409, nameIndex := 12, descriptorIndex := 6, attributes := #[] }, { accessFlags := 16409, nameIndex := 15, descriptorIndex := 6, attributes := #[] }, { accessFlags := 16409, nameIndex := 18, descriptorIndex := 6, attributes := #[] }, { accessFlags := 18, nameIndex := 40, descriptorIndex := 41, attributes := #[] }, { accessFlags := 18, nameIndex := 44, descriptorIndex := 41, attributes := #[] }, { accessFlags := 18, nameIndex := 47, descriptorIndex := 48, attributes := #[] }, { accessFlags := 4122, nameIndex := 21, descriptorIndex := 22, attributes := #[] }])
  fields := #[{ name := "BYTE", type := (.object "com/example/micrologue/micrologue/OperandKind"), accessFlags := 16409, slot := 0, constantValue := 0 }, { name := "CONST", type := (.object "com/example/micrologue/micrologue/OperandKind"), accessFlags := 16409, slot := 1, constantValue := 0 }, { name := "VARNUM", type := (.object "com/example/micrologue/micrologue/OperandKind"), accessFlags := 16409, slot := 2, constantValue := 0 }, { name := "OFFSET", type := (.object "com/example/micrologue/micrologue/OperandKind"), accessFlags := 16409, slot := 3, constantValue := 0 }, { name := "INDEX", type := (.object "com/example/micrologue/micrologue/OperandKind"), accessFlags := 16409, slot := 4, constantValue := 0 }, { name := "size", type := .int, accessFlags := 18, slot := 3, constantValue := 0 }, { name := "wideSize", type := .int, accessFlags := 18, slot := 4, constantValue := 0 }, { name := "signed", type := .boolean, accessFlags := 18, slot := 5, constantValue := 0 }, { name := "$VALUES", type := (.array (.object "com/example/micrologue/micrologue/OperandKind")), accessFlags := 4122, slot := 5, constantValue := 0 }]
  methods := #[k6m0]
  instanceTypes := #[(.object "java/lang/String"), .int, .int, .int, .int, .boolean]
  staticTypes := #[(.object "com/example/micrologue/micrologue/OperandKind"), (.object "com/example/micrologue/micrologue/OperandKind"), (.object "com/example/micrologue/micrologue/OperandKind"), (.object "com/example/micrologue/micrologue/OperandKind"), (.object "com/example/micrologue/micrologue/OperandKind"), (.array (.object "com/example/micrologue/micrologue/OperandKind"))]
  resolved := Array.replicate 99 none
  statics := some 0 }

def pool7 : Array CpInfo := pool [(1, u "java/lang/Cloneable"), (0, .class_ 1), (0, u "java/lang/Object"), (0, .class_ 3)] 3

/-- java/lang/Cloneable -/
def k7 : Class := { plain "java/lang/Cloneable" (some 0) with
  accessFlags := 1537
  interfaces := #[]
  cf := some (fileOf pool7 2 #[] #[] 1537 4 #[] #[])
  fields := #[]
  methods := #[]
  instanceTypes := #[]
  staticTypes := #[]
  resolved := Array.replicate 8 none
  statics := none }

/-- the primitive byte -/
def k8 : Class := { plain "byte" none with kind := .primitive 'B', accessFlags := 0x411 }
/-- [B -/
def k9 : Class := { plain "[B" (some 0) with kind := .array 8 .byte, interfaces := #[7, 4], accessFlags := 1041 }

/-- the primitive int -/
def k10 : Class := { plain "int" none with kind := .primitive 'I', accessFlags := 0x411 }
/-- [I -/
def k11 : Class := { plain "[I" (some 0) with kind := .array 10 .int, interfaces := #[7, 4], accessFlags := 1041 }

def heap : Heap := #[{ cls := 6, slots := #[.ref 1, .ref 2, .ref 3, .ref 4, .ref 5, .null], vm := .statics 6 },
  { cls := 6, slots := #[.null, .int 0, .int 0, .int 0, .int 0, .int 1], vm := .none },
  { cls := 6, slots := #[.null, .int 0, .int 0, .int 0, .int 0, .int 1], vm := .none },
  { cls := 6, slots := #[.null, .int 0, .int 0, .int 0, .int 0, .int 0], vm := .none },
  { cls := 6, slots := #[.null, .int 0, .int 0, .int 0, .int 0, .int 1], vm := .none },
  { cls := 6, slots := #[.null, .int 0, .int 0, .int 0, .int 0, .int 0], vm := .none }]
def classes : Array Class := #[k0, k1, k2, k3, k4, k5, k6, k7, k8, k9, k10, k11]
def interned : List (Array UInt16 × Addr) := []
def slotsUsed : Nat := 36
def theMethod : MethodId := ⟨1, 2⟩
def args0 : Array Value := #[.int 1, .int 2, .int 3]
def aboutOver (below : List Frame) : State where
  vm := { classes := classes, interned := interned.toArray }
  heap := heap
  slotsUsed := slotsUsed
  threads := #[{ frames := .invoking theMethod args0 :: below }]
def below0 : List Frame := [.native { method := ⟨0, 0⟩, args := #[] }]
def about1 : State := aboutOver below0
def p0 : Program := .bare "" "" ""
def e0 : Env := launch0.env 0 0 0
theorem w_frames : about1.frames = Frame.invoking theMethod args0 :: below0 := rfl
set_option maxRecDepth 65536 in
theorem w_args : argsFit about1.vm theMethod args0 = true := by decide +kernel
set_option maxRecDepth 65536 in
theorem w_heap : heapFits about1 = true := by decide +kernel
set_option maxRecDepth 65536 in
theorem w_runnable : about1.curStatus? = some .runnable := by decide +kernel
set_option maxRecDepth 65536 in
theorem w_alone : about1.alone = true := by decide +kernel
set_option maxRecDepth 65536 in
theorem w_named : about1.methodNamed? x = some theMethod := by decide +kernel
set_option maxRecDepth 65536 in
theorem w_hears : about1.hears theMethod below0 = true := by decide +kernel
set_option maxRecDepth 65536 in
theorem w_ripe : about1.ripe theMethod args0 below0 = true := by decide +kernel
theorem w_running : about1.status = .running := rfl
set_option maxRecDepth 65536 in
theorem w_room : about1.hasRoom e0.platform room_1 = true :=
  launch0.hasRoom_least _ room_1 (by decide +kernel) (by decide +kernel) (by decide +kernel) (by decide +kernel) (by decide +kernel) (by decide +kernel)
theorem allAtoms_all (ts : List Jvm.Cond) (a : Array Jvm.Value) (st : Jvm.State) : (allAtoms ts).before a st = ts.all (fun c => c.before a st) := by
  induction ts with
  | nil => rfl
  | cons c t ih =>
    show (Jvm.Cond.and c (allAtoms t)).before a st = _
    rw [Jvm.Cond.before_and, ih, List.all_cons]
def words1 : List Jvm.Cond := Jvm.Cond.code x code maxLocals ret :: tables_1
/-- a 'code' word, met by the world's own term for the bytes: nothing is compared byte by byte -/
theorem code_word {y : MethodName} {bytes : ByteArray} {mx : Nat} {rt : Option FieldType} {a : Array Value} {s : State} {m : MethodId} {meth : Method} {c : Code} (h1 : s.methodNamed? y = some m) (h2 : s.vm.method? m = some meth) (h3 : meth.code = some c) (h4 : c.code = bytes)
    (h5 : (c.maxLocals == mx && c.exceptionTable.isEmpty && decide (c.maxStack ≤ mostOperands) && decide (meth.sig.returnType = rt) && !meth.locks && decide (parseMethodDescriptor y.desc = some meth.sig)) = true) : (Jvm.Cond.code y bytes mx rt).before a s = true := by
  simp only [Bool.and_eq_true, beq_iff_eq, Bool.not_eq_true', decide_eq_true_eq] at h5
  obtain ⟨⟨⟨⟨⟨g1, g2⟩, g3⟩, g4⟩, g5⟩, g6⟩ := h5
  simp [Cond.before, Cond.holds, Cond.value, h1, h2, h3, h4, g1, g2, g3, g4, g5, g6]
def isCode : Jvm.Cond → Bool
  | .code _ _ _ _ => true
  | _ => false
theorem all_split {L : List Jvm.Cond} {P : Jvm.Cond → Bool} (h1 : L.all (fun c => isCode c || P c) = true) (h2 : ∀ c ∈ L.filter isCode, P c = true) : L.all P = true := by
  refine List.all_eq_true.mpr fun c hc => ?_
  have h := List.all_eq_true.mp h1 c hc
  rcases Bool.eq_false_or_eq_true (isCode c) with hi | hi
  · exact h2 c (List.mem_filter.mpr ⟨hc, hi⟩)
  · simpa [hi] using h
set_option maxRecDepth 65536 in
theorem w_c0 : (Jvm.Cond.code x code maxLocals ret).before args0 about1 = true := code_word (m := ⟨1, 2⟩) (meth := k1m2) (c := k1c2) (by decide +kernel) rfl rfl rfl (by decide +kernel)
set_option maxRecDepth 65536 in
theorem w_c1 : (Jvm.Cond.code ({ cls := "com/example/micrologue/micrologue/OperandKindValuePinLaw", name := "kindOf", desc := "(I)Lcom/example/micrologue/micrologue/OperandKind;" } : Jvm.MethodName) method_2_code (1 : Nat) (Option.some (Jvm.ClassFile.FieldType.object "com/example/micrologue/micrologue/OperandKind"))).before args0 about1 = true := code_word (m := ⟨1, 1⟩) (meth := k1m1) (c := k1c1) (by decide +kernel) rfl rfl rfl (by decide +kernel)
set_option maxRecDepth 65536 in
theorem w_c2 : (Jvm.Cond.code ({ cls := "com/example/micrologue/micrologue/OperandKind", name := "value", desc := "(II)I" } : Jvm.MethodName) prog_75_method_8_code (4 : Nat) (Option.some Jvm.ClassFile.FieldType.int)).before args0 about1 = true := code_word (m := ⟨6, 0⟩) (meth := k6m0) (c := k6c0) (by decide +kernel) rfl rfl rfl (by decide +kernel)
def codes1 : List Jvm.Cond := [Jvm.Cond.code x code maxLocals ret, Jvm.Cond.code ({ cls := "com/example/micrologue/micrologue/OperandKindValuePinLaw", name := "kindOf", desc := "(I)Lcom/example/micrologue/micrologue/OperandKind;" } : Jvm.MethodName) method_2_code (1 : Nat) (Option.some (Jvm.ClassFile.FieldType.object "com/example/micrologue/micrologue/OperandKind")), Jvm.Cond.code ({ cls := "com/example/micrologue/micrologue/OperandKind", name := "value", desc := "(II)I" } : Jvm.MethodName) prog_75_method_8_code (4 : Nat) (Option.some Jvm.ClassFile.FieldType.int)]
set_option maxRecDepth 65536 in
theorem codes_eq : words1.filter isCode = codes1 := rfl
theorem w_codes : ∀ c ∈ words1.filter isCode, c.before args0 about1 = true := by
  rw [codes_eq]
  intro c hc
  simp only [codes1, List.mem_cons, List.not_mem_nil, or_false] at hc
  rcases hc with rfl | rfl | rfl
  · exact w_c0
  · exact w_c1
  · exact w_c2
set_option maxRecDepth 65536 in
theorem w_t1 : (words1.take 24).all (fun c => isCode c || c.before args0 about1) = true := by decide +kernel
set_option maxRecDepth 65536 in
theorem w_t2 : (words1.drop 24).all (fun c => isCode c || c.before args0 about1) = true := by decide +kernel
theorem w_tables : (allAtoms (Jvm.Cond.code x code maxLocals ret :: tables_1)).before args0 about1 = true := by
  rw [allAtoms_all]
  show words1.all (fun c => c.before args0 about1) = true
  refine all_split ?_ w_codes
  rw [← List.take_append_drop 24 words1, List.all_append, w_t1, w_t2]
  rfl
set_option maxRecDepth 65536 in
theorem w_case : (Jvm.Cond.and given_1 narrow_1).before args0 about1 = true := by decide +kernel
theorem w_applies : (headSpec (Jvm.Cond.code x code maxLocals ret :: tables_1) room_1).applies x e0.platform about1 = true :=
  (Spec.applies_iff w_frames).mpr ⟨w_running, w_runnable, w_alone, w_named, w_hears, w_ripe, w_room, w_tables⟩
theorem atStart : AtStart classFile x code maxLocals ret World_1 tables_1 room_1 Calls_1 rest_1 Pre_1 launch0 p0 e0 about1 theMethod args0 below0 :=
  ⟨lists_1, trivial, launch0.admits_env _ _ _, launch0.least_env, fairChoices_fair.cas, fairChoices_fair.clock, w_frames, w_args, w_heap, w_applies, trivial, trivial, w_case⟩
end start1
theorem witness_1 : WitnessClaimed_1 := ⟨start1.p0, start1.e0, start1.about1, start1.theMethod, start1.args0, start1.below0, start1.atStart⟩
end Jvm.Pilot.@@N@@
