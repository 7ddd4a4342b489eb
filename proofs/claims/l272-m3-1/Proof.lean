import JvmDerived
import JvmDerived.Pilot.@@N@@Statement
import JvmDerived.Pilot.@@N@@Code
set_option linter.unusedVariables false
set_option linter.unusedSimpArgs false
namespace Jvm.RoadKit
open Sem ClassFile Op Lib Jvm.Stand Jvm.Free Jvm.LawKit
section New
variable {p : Program} {l : Launch} {e : Env} {R : Room} {s : State} {m : MethodId} {args : Array Value} {below : List Frame} {meth : Method} {c : Code} {T : State} {locs : List Loc} {cells slots : Nat}
theorem retI (X : Stand p l e R s m args below meth c T locs cells slots) (hx : p.tables.exec = Jvm.exec) {pc : Nat} {Ls : Array Slot} {z : Int32} {rest : List Value} (hret : meth.sig.returnType = some .int) (hd : decode c.code pc = .ok (.ireturn, 1)) {fs : List Frame}
    (hl : ∀ (f : JFrame) (acts : List Action), f.method = m → f.locked = none → f.entered = [] → (doReturn e (T.setTop f) acts (some (.int z))).1 = T.setFrames fs) : Steps p.tables e below (T.setTop (mkF m pc Ls (.int z :: rest))) (T.setFrames fs) := by
  have hm' : T.vm.method? m = some meth := X.method'
  have hn : narrow .int (.int z) = .int z := rfl
  show Steps p.tables e below (T.setTop { method := m, pc := pc, locals := Ls, stack := _ :: rest, locked := none }) _
  jvm_step X.here [X.here.top, hx, hd, hm', hret, hn]
  first | (intro acts; rw [hl _ acts rfl rfl rfl]) | rw [hl _ _ rfl rfl rfl]
  exact Steps.refl _
end New
end Jvm.RoadKit
namespace Jvm.Pilot.@@N@@
open Jvm Jvm.ClassFile Sem Op Lib Jvm.Free Jvm.Stand Jvm.LawKit Jvm.RoadKit Bundle Jvm.Pilot.@@N@@.Jvm.D
/-- from the state T the run comes to a state of which K holds -/
def own_Go (p : Program) (e : Env) (below : List Frame) (K : State → Prop) (T : State) : Prop := ∃ t, Steps p.tables e below T t ∧ K t
theorem own_st {p : Program} {e : Env} {below : List Frame} {K : State → Prop} {T T' : State} (h : ∀ t, Steps p.tables e below T' t → Steps p.tables e below T t) (g : own_Go p e below K T') : own_Go p e below K T := by
  obtain ⟨t, a, b⟩ := g; exact ⟨t, h t a, b⟩
theorem own_tr {p : Program} {e : Env} {below : List Frame} {K : State → Prop} {T T' : State} (h : Steps p.tables e below T T') (g : own_Go p e below K T') : own_Go p e below K T := by
  obtain ⟨t, a, b⟩ := g; exact ⟨t, h.trans a, b⟩
theorem own_lrem {tb : Tables} [Ours tb] {e : Env} {below : List Frame} {T target : State} {m : MethodId} {c : Code} {g : JFrame} (h : At T m c below) (hx : tb.exec = Jvm.exec) (hg : g.method = m) {x y : Int64} {rest : List Value} (hd : decode c.code g.pc = .ok (.lrem, 1)) (hs : g.stack = .long y :: .long x :: rest) (hy : y ≠ 0)
    (hr : Steps tb e below (T.setTop { g with pc := g.pc + 1, stack := .long (x % y) :: rest }) target) : Steps tb e below (T.setTop g) target := by
  have q : x - x / y * y = x % y := lrem_mod x y
  exact XS.lrem h hx hg hd hs hy (by rw [q]; exact hr)
/-- a boolean's worth: 1 where P holds, 0 where it doesn't -/
def own_B (P : Prop) (r : Int32) : Prop := (r = 1 ∧ P) ∨ (r = 0 ∧ ¬ P)
theorem own_B.yes {P : Prop} {r : Int32} (e : r = 1) (h : P) : own_B P r := Or.inl ⟨e, h⟩
theorem own_B.no {P : Prop} {r : Int32} (e : r = 0) (h : ¬ P) : own_B P r := Or.inr ⟨e, h⟩
theorem own_B.same {P Q : Prop} {r v : Int32} (a : own_B P r) (b : own_B Q v) (h : P ↔ Q) : r = v := by
  rcases a with ⟨rfl, p⟩ | ⟨rfl, p⟩ <;> rcases b with ⟨rfl, q⟩ | ⟨rfl, q⟩
  · rfl
  · exact absurd (h.mp p) q
  · exact absurd (h.mpr q) p
  · rfl
theorem own_B.one {P : Prop} {r : Int32} (a : own_B P r) (h : P) : r = 1 := by
  rcases a with ⟨rfl, p⟩ | ⟨rfl, p⟩
  · rfl
  · exact absurd h p
theorem own_B.zero {P : Prop} {r : Int32} (a : own_B P r) (h : ¬ P) : r = 0 := by
  rcases a with ⟨rfl, p⟩ | ⟨rfl, p⟩
  · exact absurd p h
  · rfl
theorem own_B.ne0 {P : Prop} {r : Int32} (a : own_B P r) (h : P) : ¬ r = 0 := by rw [a.one h]; decide
theorem own_B.holds {P : Prop} {r : Int32} (a : own_B P r) (h : ¬ r = 0) : P := by
  rcases a with ⟨rfl, p⟩ | ⟨rfl, p⟩
  · exact p
  · exact absurd rfl h
theorem own_B.fails {P : Prop} {r : Int32} (a : own_B P r) (h : r = 0) : ¬ P := by
  rcases a with ⟨rfl, p⟩ | ⟨rfl, p⟩
  · exact absurd h (by decide)
  · exact p
theorem own_atJ (ws : List Int64) (i : Nat) : (ws.map Value.long).getD i (.long (0 : Int64)) = .long (ws.getD i 0) := by
  simp only [List.getD, List.getElem?_map]; cases ws[i]? <;> rfl
theorem own_atI (ws : List Int32) (i : Nat) : (ws.map Value.int).getD i (.int (0 : Int32)) = .int (ws.getD i 0) := by
  simp only [List.getD, List.getElem?_map]; cases ws[i]? <;> rfl
theorem own_selp {Z s : State} {a0 args : Array Value} {y : MethodName} {n : Nat} (hZ : Z.Warmed39 s.vm) (wi : (Jvm.Cond.instantiable y.cls n).before a0 Z = true) (wm : (Jvm.Cond.instanceMethod y).before a0 Z = true) (wp : (Jvm.Cond.privateMethod y).before a0 Z = true) (hy : y.cls ≠ "java/lang/invoke/MethodHandle" ∧ y.cls ≠ "java/lang/invoke/VarHandle") : (Jvm.Cond.selects y.cls y y).before args s = true := by
  have w1 : (Jvm.Cond.instantiable y.cls n).before args s = true := mvT hZ wi
  obtain ⟨c, k, h1, h2, h3, h4, -⟩ := Cond.instantiable_spec w1
  have h5 : k.isInterface = false := by cases hq : k.isInterface <;> simp [hq] at h4 ⊢
  exact selects_self_of_private h1 h2 h5 (Cond.privateMethod_at (mvP hZ wp (args := args))) (mvT hZ wm) hy
theorem own_hat {T : State} {h : Heap} {a : Addr} {c : Cell} (e : T.heap = h) (q : h[a]? = some c) : T.heap[a]? = some c := by rw [e]; exact q
theorem own_nn (x : Int32) : nar .byte (nar .byte x) = nar .byte x := by
  refine Int32.toInt_inj.mp ?_
  have a := c_i2b x
  have b := c_i2b x.toInt8.toInt32
  show x.toInt8.toInt32.toInt8.toInt32.toInt = x.toInt8.toInt32.toInt
  omega
theorem own_nb (x : Int32) : nar .byte x.toInt8.toInt32 = x.toInt8.toInt32 := own_nn x
theorem own_fit {x : Int32} (h : nar .byte x = x) : fits .byte (.int x) = true := by rw [← h]; exact fits_nar_byte x
theorem own_cl {j : Int32} {i : Nat} (h : j.toInt = (i : Int)) : j.toNatClampNeg = i := by rw [Int32.toNatClampNeg, h]; rfl
theorem own_lt {a b : Int32} (h : a.toInt < b.toInt) : a < b := Int32.lt_iff_toInt_lt.mpr h
theorem own_nlt {a b : Int32} (h : b.toInt ≤ a.toInt) : ¬ a < b := fun q => absurd (Int32.lt_iff_toInt_lt.mp q) (by omega)
theorem own_ltI {a b : Int32} (h : a < b) : a.toInt < b.toInt := Int32.lt_iff_toInt_lt.mp h
theorem own_nltI {a b : Int32} (h : ¬ a < b) : b.toInt ≤ a.toInt := by have := mt Int32.lt_iff_toInt_lt.mpr h; omega
theorem own_neI {a b : Int32} (h : ¬ a = b) : ¬ a.toInt = b.toInt := fun q => h (Int32.toInt_inj.mp q)
theorem own_ltL {a b : Int64} (h : a < b) : a.toInt < b.toInt := Int64.lt_iff_toInt_lt.mp h
theorem own_nltL {a b : Int64} (h : ¬ a < b) : b.toInt ≤ a.toInt := by have := mt Int64.lt_iff_toInt_lt.mpr h; omega
theorem own_neL {a b : Int64} (h : ¬ a = b) : ¬ a.toInt = b.toInt := fun q => h (Int64.toInt_inj.mp q)
def own_A (xs : List Int32) (w f t : Int32) (j : Nat) : Prop := f.toInt ≤ (j : Int) ∧ (j : Int) < t.toInt ∧ xs.getD j 0 = w
def own_F (A : Nat → Prop) (m N : Nat) (v : Int32) : Prop := (v = -1 ∧ ∀ j, m ≤ j → j < N → ¬ A j) ∨ (∃ n : Nat, v.toInt = (n : Int) ∧ m ≤ n ∧ n < N ∧ A n ∧ ∀ j, m ≤ j → j < n → ¬ A j)
theorem own_F.uniq {A : Nat → Prop} {m N : Nat} {v w : Int32} (a : own_F A m N v) (b : own_F A m N w) : v = w := by
  rcases a with ⟨rfl, p⟩ | ⟨n, e, h1, h2, h3, h4⟩ <;> rcases b with ⟨rfl, q⟩ | ⟨k, f, g1, g2, g3, g4⟩
  · rfl
  · exact absurd g3 (p k g1 g2)
  · exact absurd h3 (q n h1 h2)
  · have : n = k := by
      rcases Nat.lt_trichotomy n k with z | z | z
      · exact absurd h3 (g4 n h1 z)
      · exact z
      · exact absurd g3 (h4 k g1 z)
    exact Int32.toInt_inj.mp (by rw [e, f, this])
theorem own_F.keep {A : Nat → Prop} {m N : Nat} {v : Int32} (a : own_F A (m + 1) N v) (h : ¬ A m) : own_F A m N v := by
  rcases a with ⟨rfl, p⟩ | ⟨n, e, h1, h2, h3, h4⟩
  · refine Or.inl ⟨rfl, fun j a b => ?_⟩
    by_cases q : j = m
    · rw [q]; exact h
    · exact p j (by omega) b
  · refine Or.inr ⟨n, e, by omega, h2, h3, fun j a b => ?_⟩
    by_cases q : j = m
    · rw [q]; exact h
    · exact h4 j (by omega) b
theorem own_F.hit {A : Nat → Prop} {m N : Nat} {v : Int32} (h : A m) (hm : m < N) (e : v.toInt = (m : Int)) : own_F A m N v := Or.inr ⟨m, e, Nat.le_refl _, hm, h, fun j a b => by omega⟩
theorem own_F.none (A : Nat → Prop) (N : Nat) : own_F A N N (-1) := Or.inl ⟨rfl, fun j a b => by omega⟩
theorem own_i1 {i t : Int32} (h : i < t) : (i + (1 : Int32)).toInt = i.toInt + 1 := by
  have a := c_iadd i 1
  have t1 : (1 : Int32).toInt = 1 := by decide
  have r := rng32 (i + 1)
  have q := own_ltI h
  have r2 := rng32 t
  have r3 := rng32 i
  rw [t1] at a
  omega
def own_inv (xs : List Int32) (w f t : Int32) (k : Nat) (i : Int32) : Prop := 0 < k ∧ t.toInt - i.toInt < k ∧ 0 ≤ i.toInt ∧ ∀ j : Nat, (j : Int) < i.toInt → ¬ own_A xs w f t j
theorem own_inv0 {xs : List Int32} {w f t : Int32} (hp : 0 ≤ f.toInt) : own_inv xs w f t ((t.toInt - f.toInt).toNat + 1) f := ⟨Nat.succ_pos _, by omega, hp, fun j a b => by have := b.1; omega⟩
theorem own_inv1 {xs : List Int32} {w f t : Int32} {k : Nat} {i : Int32} (h : own_inv xs w f t (k + 1) i) (hl : i < t) (hn : ¬ xs.getD i.toNatClampNeg 0 = w) : own_inv xs w f t k (i + (1 : Int32)) := by
  obtain ⟨a, b, c, d⟩ := h
  have e := own_i1 hl
  have q := own_ltI hl
  refine ⟨by omega, by omega, by omega, fun j hj z => ?_⟩
  by_cases y : (j : Int) = i.toInt
  · rw [own_cl (i := j) y.symm] at hn
    exact hn z.2.2
  · exact d j (by omega) z
theorem own_out {xs : List Int32} {w f t : Int32} {k N : Nat} {i : Int32} (h : own_inv xs w f t k i) (hl : ¬ i < t) : own_F (own_A xs w f t) 0 N (-1) := by
  refine Or.inl ⟨rfl, fun j _ _ z => ?_⟩
  have q := own_nltI hl
  exact h.2.2.2 j (by have := z.2.1; omega) z
theorem own_got {xs : List Int32} {w f t z : Int32} {k : Nat} {i : Int32} (h : own_inv xs w f t k i) (hl : i < t) (hz : i < z) (he : xs.getD i.toNatClampNeg 0 = w) (hf : f.toInt ≤ i.toInt) : own_F (own_A xs w f t) 0 z.toNatClampNeg i := by
  have c : i.toInt = (i.toNatClampNeg : Int) := nat_of (own_nlt h.2.2.1)
  have c2 : z.toInt = (z.toNatClampNeg : Int) := nat_of (own_nlt (by have := own_ltI hz; have := h.2.2.1; show (0 : Int) ≤ _; omega))
  have q := own_ltI hz
  have q2 := own_ltI hl
  refine Or.inr ⟨_, c, Nat.zero_le _, by omega, ⟨by omega, by omega, he⟩, fun j _ b => h.2.2.2 j (by omega)⟩
theorem own_atY {xs : List Int32} {w i f t : Int32} (h0 : ¬ i < 0) (h1 : ¬ i < f) (h2 : i < t) (h3 : xs.getD i.toNatClampNeg 0 = w) : own_A xs w f t i.toNatClampNeg := by
  have c := nat_of h0
  have a := own_nltI h1
  have b := own_ltI h2
  exact ⟨by omega, by omega, h3⟩
theorem own_atN1 {xs : List Int32} {w i f t : Int32} (h0 : ¬ i < 0) (h1 : i < f) : ¬ own_A xs w f t i.toNatClampNeg := fun q => by
  have c := nat_of h0
  have a := own_ltI h1
  have := q.1
  omega
theorem own_atN2 {xs : List Int32} {w i f t : Int32} (h0 : ¬ i < 0) (h1 : ¬ i < t) : ¬ own_A xs w f t i.toNatClampNeg := fun q => by
  have c := nat_of h0
  have a := own_nltI h1
  have := q.2.1
  omega
theorem own_rem5 {c j : Int32} (h : (c &&& (2147483647 : Int32)) % (5 : Int32) = j) : 0 ≤ j.toInt ∧ j.toInt ≤ 4 := by
  have k : (c &&& (2147483647 : Int32)).toInt = c.toInt % 2147483648 := c_mask c 2147483647 31 (by decide) (by decide)
  have v := (c_irem (c &&& 2147483647) 5 5 (by decide)).1 (by omega)
  rw [h] at v
  omega
theorem own_m7 {w s : Int32} (h : w &&& (7 : Int32) = s) : 0 ≤ s.toInt := by
  have e : (w &&& (7 : Int32)).toInt = w.toInt % 8 := c_mask w 7 3 (by decide) (by decide)
  rw [h] at e
  omega
theorem d1_0 : decode prog_25_method_7_code 0 = .ok (.iload_n 2, 1) := by decide +kernel
theorem d1_1 : decode prog_25_method_7_code 1 = .ok (.istore 4, 2) := by decide +kernel
theorem d1_3 : decode prog_25_method_7_code 3 = .ok (.iload 4, 2) := by decide +kernel
theorem d1_5 : decode prog_25_method_7_code 5 = .ok (.iload_n 3, 1) := by decide +kernel
theorem d1_6 : decode prog_25_method_7_code 6 = .ok (.if_icmp .ge 20, 3) := by decide +kernel
theorem d1_9 : decode prog_25_method_7_code 9 = .ok (.aload_n 0, 1) := by decide +kernel
theorem d1_10 : decode prog_25_method_7_code 10 = .ok (.iload 4, 2) := by decide +kernel
theorem d1_12 : decode prog_25_method_7_code 12 = .ok (.baload, 1) := by decide +kernel
theorem d1_13 : decode prog_25_method_7_code 13 = .ok (.iload_n 1, 1) := by decide +kernel
theorem d1_14 : decode prog_25_method_7_code 14 = .ok (.if_icmp .ne 6, 3) := by decide +kernel
theorem d1_17 : decode prog_25_method_7_code 17 = .ok (.iload 4, 2) := by decide +kernel
theorem d1_19 : decode prog_25_method_7_code 19 = .ok (.ireturn, 1) := by decide +kernel
theorem d1_20 : decode prog_25_method_7_code 20 = .ok (.iinc 4 1, 3) := by decide +kernel
theorem d1_23 : decode prog_25_method_7_code 23 = .ok (.goto (-20), 3) := by decide +kernel
theorem d1_26 : decode prog_25_method_7_code 26 = .ok (.iconst (-1), 1) := by decide +kernel
theorem d1_27 : decode prog_25_method_7_code 27 = .ok (.ireturn, 1) := by decide +kernel
theorem pn_1 : plainName "org/ranktide/formats/LineReader" = true := by first | (simp [plainName, overriddenIn]; done) | decide +kernel
theorem ef_1 (m : MethodId) (x0 : Addr) (x1 : Int32) (x2 : Int32) (x3 : Int32) : entryFrame m #[(.ref x0), (.int x1), (.int x2), (.int x3)] 5 = mkF m 0 #[.val (.ref x0), .val (.int x1), .val (.int x2), .val (.int x3), .unset] [] := by first | (simp [entryFrame, mkF, argsToLocals, Value.category]; done) | rfl
def Q1 (Z : State) (a1 : Addr) (p2 : Int32) (p3 : Int32) (p4 : Int32) (xk : ClassId) (xn : Int32) (xs : List Int32) (h0 : Heap) (n0 : Nat) (v : Option Value) (h : Heap) (L : List Loc) : Prop := ∃ (r : Int32), v = some (.int r) ∧ (own_F (own_A xs p2 p3 p4) 0 xn.toNatClampNeg r) ∧ Fr n0 L ∧ h = h0
set_option maxRecDepth 65536 in
set_option maxHeartbeats 40000000 in
theorem rm1 (l : Launch) (Z : State) (a0 : Array Value) (hw : ∀ d ∈ tables_1, d.before a0 Z = true) (ws : List Jvm.Cond) (a1 : Addr) (p2 : Int32) (p3 : Int32) (p4 : Int32) (xk : ClassId) (xn : Int32) (xs : List Int32) (h0 : Heap) (n0 : Nat) (Z0 : n0 ≤ h0.size) (P0 : Arv Z h0 a1 xk .byte xn (xs.map Value.int) (.int (0 : Int32))) (hp : 0 ≤ p3.toInt) (hx4 : p4.toInt ≤ xn.toInt) :
    MetFree l (⟨"org/ranktide/formats/LineReader", "indexOf", "([BBII)I"⟩ : MethodName) (head1 (Jvm.Cond.code (⟨"org/ranktide/formats/LineReader", "indexOf", "([BBII)I"⟩ : MethodName) prog_25_method_7_code 5 (some .int) :: ws) ({ frames := 0, cells := 0, slots := 0, locals := 0 } : Room)) (fun a U => a = #[(.ref a1), (.int p2), (.int p3), (.int p4)] ∧ Z.Warmed39 U.vm ∧ U.heap = h0) (fun _ _ _ _ _ => True) (fun _ U o U' => ∃ v L, o = .returned v ∧ Q1 Z a1 p2 p3 p4 xk xn xs h0 n0 v U'.heap L ∧ FrameEnd U o U' L ({ frames := 0, cells := 0, slots := 0, locals := 0 } : Room).cells ({ frames := 0, cells := 0, slots := 0, locals := 0 } : Room).slots) := by
  refine MetFree.of_bodySF (plainFor_of_name pn_1) hisR ?_
  intro p e s m args below meth c s₁ Bd hml0 hP hK
  obtain ⟨rfl, hZ, hh⟩ := hP
  have hx := Bd.exec
  have hby := Bd.bytes
  have hml : c.maxLocals = 5 := hml0
  have hown : s.vm.findClass "org/ranktide/formats/LineReader" = some m.cls := findClass_of_methodNamed Bd.named
  have hnm := (name_of_methodNamed Bd.named Bd.method).1
  have X0 : Stand p l e ({ frames := 0, cells := 0, slots := 0, locals := 0 } : Room) s m #[(.ref a1), (.int p2), (.int p3), (.int p4)] below meth c s₁ [] 0 0 := Stand.of_body Bd
  have e0 : s₁.heap = h0 := by rw [← hh, Bd.state]; rfl
  have N0 := Fr.nil n0
  suffices G0 : ∀ K : State → Prop, (∀ (n : State) (v : Option Value) (L : List Loc), n.status = .running → Ended n below (.returned v) → Q1 Z a1 p2 p3 p4 xk xn xs h0 n0 v n.heap L → FrameEnd s (.returned v) n L ({ frames := 0, cells := 0, slots := 0, locals := 0 } : Room).cells ({ frames := 0, cells := 0, slots := 0, locals := 0 } : Room).slots → K n) → own_Go p e below K (s₁.setTop (mkF m 0 #[.val (.ref a1), .val (.int p2), .val (.int p3), .val (.int p4), .unset] [])) by
    obtain ⟨t, st, o, a, b, v, L, e1, q, fe⟩ := G0 (fun n => ∃ o, n.status = .running ∧ Ended n below o ∧ ∃ v L, o = .returned v ∧ Q1 Z a1 p2 p3 p4 xk xn xs h0 n0 v n.heap L ∧ FrameEnd s o n L ({ frames := 0, cells := 0, slots := 0, locals := 0 } : Room).cells ({ frames := 0, cells := 0, slots := 0, locals := 0 } : Room).slots) (fun n v L a b q f => ⟨_, a, b, v, L, rfl, q, f⟩)
    exact ⟨t, o, castTop (ef_1 m a1 p2 p3 p4) st, a, b, v, L, e1, q, fe⟩
  intro K fin
  show own_Go p e below K (s₁.setTop (mkF m 0 #[.val (.ref a1), .val (.int p2), .val (.int p3), .val (.int p4), .unset] []))
  refine own_st (fun t k => XS.iloadN X0.here hx rfl (hb hby d1_0) rfl k) ?_
  show own_Go p e below K (s₁.setTop (mkF m 1 #[.val (.ref a1), .val (.int p2), .val (.int p3), .val (.int p4), .unset] [(.int p3)]))
  refine own_st (fun t k => XS.istore X0.here hx rfl (hb hby d1_1) rfl (l' := #[.val (.ref a1), .val (.int p2), .val (.int p3), .val (.int p4), .val (.int p3)]) rfl k) ?_
  show own_Go p e below K (s₁.setTop (mkF m 3 #[.val (.ref a1), .val (.int p2), .val (.int p3), .val (.int p4), .val (.int p3)] []))
  have Lp3 : ∀ k : Nat, ∀ (T' : State) (locs' : List Loc) (ii : Int32) (X' : Stand p l e ({ frames := 0, cells := 0, slots := 0, locals := 0 } : Room) s m #[(.ref a1), (.int p2), (.int p3), (.int p4)] below meth c T' locs' 0 0) (e' : T'.heap = h0) (N' : Fr n0 locs'), (own_inv xs p2 p3 p4 k ii ∧ p3.toInt ≤ ii.toInt) → own_Go p e below K (T'.setTop (mkF m 3 #[.val (.ref a1), .val (.int p2), .val (.int p3), .val (.int p4), .val (.int ii)] [])) := by
    intro k
    induction k with
    | zero =>
      intro T2 locs2 ii X2 e2 N2 hi3
      exact absurd hi3.1.1 (Nat.lt_irrefl 0)
    | succ k ih =>
      intro T3 locs3 ii X3 e3 N3 hi3
      refine own_st (fun t k => XS.iload X3.here hx rfl (hb hby d1_3) rfl k) ?_
      show own_Go p e below K (T3.setTop (mkF m 5 #[.val (.ref a1), .val (.int p2), .val (.int p3), .val (.int p4), .val (.int ii)] [(.int ii)]))
      refine own_st (fun t k => XS.iloadN X3.here hx rfl (hb hby d1_5) rfl k) ?_
      show own_Go p e below K (T3.setTop (mkF m 6 #[.val (.ref a1), .val (.int p2), .val (.int p3), .val (.int p4), .val (.int ii)] [(.int p4), (.int ii)]))
      by_cases hc6 : ii < p4
      · refine own_st (fun t k => XS.icmpNo X3.here hx rfl (hb hby d1_6) rfl (tlt hc6).2.1 k) ?_
        show own_Go p e below K (T3.setTop (mkF m 9 #[.val (.ref a1), .val (.int p2), .val (.int p3), .val (.int p4), .val (.int ii)] []))
        refine own_st (fun t k => XS.aloadN X3.here hx rfl (hb hby d1_9) rfl rfl k) ?_
        show own_Go p e below K (T3.setTop (mkF m 10 #[.val (.ref a1), .val (.int p2), .val (.int p3), .val (.int p4), .val (.int ii)] [(.ref a1)]))
        refine own_st (fun t k => XS.iload X3.here hx rfl (hb hby d1_10) rfl k) ?_
        show own_Go p e below K (T3.setTop (mkF m 12 #[.val (.ref a1), .val (.int p2), .val (.int p3), .val (.int p4), .val (.int ii)] [(.int ii), (.ref a1)]))
        obtain ⟨cl4, Ar4, q4, S4, M4, H4, G4⟩ := id P0
        have hin4 : ¬ (ii < 0 ∨ cl4.slots.size ≤ (ii).toNatClampNeg) := inb_of S4 ⟨own_nlt hi3.1.2.2.1, own_lt (by have := own_ltI hc6; omega)⟩
        refine own_st (X3.baloadBytes hx (j := ii) (v := (.int (xs.getD (ii).toNatClampNeg 0))) (own_hat e3 Ar4.1) (State.isArrayOf_alike hZ.alike Ar4.2.1) Ar4.2.2 hin4 (Has.at H4 hin4 (own_atI xs _)) (g := (mkF m 12 #[.val (.ref a1), .val (.int p2), .val (.int p3), .val (.int p4), .val (.int ii)] [(.int ii), (.ref a1)])) rfl rfl (hb hby d1_12)) ?_
        show own_Go p e below K (T3.setTop (mkF m 13 #[.val (.ref a1), .val (.int p2), .val (.int p3), .val (.int p4), .val (.int ii)] [(.int (xs.getD (ii).toNatClampNeg 0))]))
        refine own_st (fun t k => XS.iloadN X3.here hx rfl (hb hby d1_13) rfl k) ?_
        show own_Go p e below K (T3.setTop (mkF m 14 #[.val (.ref a1), .val (.int p2), .val (.int p3), .val (.int p4), .val (.int ii)] [(.int p2), (.int (xs.getD (ii).toNatClampNeg 0))]))
        by_cases hc14 : (xs.getD (ii).toNatClampNeg 0) = p2
        · refine own_st (fun t k => XS.icmpNo X3.here hx rfl (hb hby d1_14) rfl (teq hc14).2 k) ?_
          show own_Go p e below K (T3.setTop (mkF m 17 #[.val (.ref a1), .val (.int p2), .val (.int p3), .val (.int p4), .val (.int ii)] []))
          refine own_st (fun t k => XS.iload X3.here hx rfl (hb hby d1_17) rfl k) ?_
          show own_Go p e below K (T3.setTop (mkF m 19 #[.val (.ref a1), .val (.int p2), .val (.int p3), .val (.int p4), .val (.int ii)] [(.int ii)]))
          obtain ⟨fs, hr, hrun, hended, hW, hsame⟩ := X3.leave (v := some (.int ii)) (fun h => by rw [Bd.returns] at h; cases h)
          refine ⟨_, retI X3 hx Bd.returns (hb hby d1_19) hr, fin _ _ _ hrun hended ?_ ⟨⟨_, rfl⟩, hW, hsame.mono (by decide) (by decide)⟩⟩
          show Q1 Z a1 p2 p3 p4 xk xn xs h0 n0 _ T3.heap _
          rw [e3]
          exact ⟨_, rfl, (own_got hi3.1 hc6 (own_lt (by have := own_ltI hc6; omega)) hc14 hi3.2), N3, rfl⟩
        refine own_st (fun t k => XS.icmpYes X3.here hx rfl (pc0 := 14) (pc' := 20) rfl (hb hby d1_14) rfl (feq hc14).2 (by decide) (by decide) k) ?_
        show own_Go p e below K (T3.setTop (mkF m 20 #[.val (.ref a1), .val (.int p2), .val (.int p3), .val (.int p4), .val (.int ii)] []))
        refine own_st (fun t k => XS.iinc X3.here hx rfl (hb hby d1_20) rfl (l' := #[.val (.ref a1), .val (.int p2), .val (.int p3), .val (.int p4), .val (.int (ii + (1 : Int32)))]) rfl k) ?_
        show own_Go p e below K (T3.setTop (mkF m 23 #[.val (.ref a1), .val (.int p2), .val (.int p3), .val (.int p4), .val (.int (ii + (1 : Int32)))] []))
        refine own_st (fun t k => XS.goto X3.here hx rfl (pc0 := 23) (pc' := 3) rfl (hb hby d1_23) (by decide) (by decide) k) ?_
        show own_Go p e below K (T3.setTop (mkF m 3 #[.val (.ref a1), .val (.int p2), .val (.int p3), .val (.int p4), .val (.int (ii + (1 : Int32)))] []))
        exact ih T3 _ ((ii + (1 : Int32))) X3 e3 N3 ⟨own_inv1 hi3.1 hc6 hc14, by rw [own_i1 hc6]; have := hi3.2; omega⟩
      refine own_st (fun t k => XS.icmpYes X3.here hx rfl (pc0 := 6) (pc' := 26) rfl (hb hby d1_6) rfl (flt hc6).2.1 (by decide) (by decide) k) ?_
      show own_Go p e below K (T3.setTop (mkF m 26 #[.val (.ref a1), .val (.int p2), .val (.int p3), .val (.int p4), .val (.int ii)] []))
      refine own_st (fun t k => XS.iconst X3.here hx rfl (hb hby d1_26) k) ?_
      show own_Go p e below K (T3.setTop (mkF m 27 #[.val (.ref a1), .val (.int p2), .val (.int p3), .val (.int p4), .val (.int ii)] [(.int (-1 : Int32))]))
      obtain ⟨fs, hr, hrun, hended, hW, hsame⟩ := X3.leave (v := some (.int (-1 : Int32))) (fun h => by rw [Bd.returns] at h; cases h)
      refine ⟨_, retI X3 hx Bd.returns (hb hby d1_27) hr, fin _ _ _ hrun hended ?_ ⟨⟨_, rfl⟩, hW, hsame.mono (by decide) (by decide)⟩⟩
      show Q1 Z a1 p2 p3 p4 xk xn xs h0 n0 _ T3.heap _
      rw [e3]
      exact ⟨_, rfl, (own_out hi3.1 hc6), N3, rfl⟩
  exact Lp3 ((p4.toInt - p3.toInt).toNat + 1) s₁ _ p3 X0 e0 N0 ⟨own_inv0 hp, Int.le_refl _⟩
theorem d2_0 : decode method_2_code 0 = .ok (.iload_n 2, 1) := by decide +kernel
theorem d2_1 : decode method_2_code 1 = .ok (.iload_n 3, 1) := by decide +kernel
theorem d2_2 : decode method_2_code 2 = .ok (.if_icmp .lt 20, 3) := by decide +kernel
theorem d2_5 : decode method_2_code 5 = .ok (.iload_n 2, 1) := by decide +kernel
theorem d2_6 : decode method_2_code 6 = .ok (.iload 4, 2) := by decide +kernel
theorem d2_8 : decode method_2_code 8 = .ok (.if_icmp .ge 14, 3) := by decide +kernel
theorem d2_11 : decode method_2_code 11 = .ok (.aload_n 0, 1) := by decide +kernel
theorem d2_12 : decode method_2_code 12 = .ok (.iload_n 2, 1) := by decide +kernel
theorem d2_13 : decode method_2_code 13 = .ok (.baload, 1) := by decide +kernel
theorem d2_14 : decode method_2_code 14 = .ok (.iload_n 1, 1) := by decide +kernel
theorem d2_15 : decode method_2_code 15 = .ok (.if_icmp .ne 7, 3) := by decide +kernel
theorem d2_18 : decode method_2_code 18 = .ok (.iconst 1, 1) := by decide +kernel
theorem d2_19 : decode method_2_code 19 = .ok (.goto 4, 3) := by decide +kernel
theorem d2_22 : decode method_2_code 22 = .ok (.iconst 0, 1) := by decide +kernel
theorem d2_23 : decode method_2_code 23 = .ok (.ireturn, 1) := by decide +kernel
theorem pn_2 : plainName "org/ranktide/formats/LineReaderIndexOfPinLaw" = true := by first | (simp [plainName, overriddenIn]; done) | decide +kernel
theorem ef_2 (m : MethodId) (x0 : Addr) (x1 : Int32) (x2 : Int32) (x3 : Int32) (x4 : Int32) : entryFrame m #[(.ref x0), (.int x1), (.int x2), (.int x3), (.int x4)] 5 = mkF m 0 #[.val (.ref x0), .val (.int x1), .val (.int x2), .val (.int x3), .val (.int x4)] [] := by first | (simp [entryFrame, mkF, argsToLocals, Value.category]; done) | rfl
def Q2 (Z : State) (a1 : Addr) (p2 : Int32) (p3 : Int32) (p4 : Int32) (p5 : Int32) (xk : ClassId) (xn : Int32) (xs : List Int32) (h0 : Heap) (n0 : Nat) (v : Option Value) (h : Heap) (L : List Loc) : Prop := ∃ (r : Int32), v = some (.int r) ∧ (own_B (own_A xs p2 p4 p5 p3.toNatClampNeg) r) ∧ Fr n0 L ∧ h = h0
set_option maxRecDepth 65536 in
set_option maxHeartbeats 40000000 in
theorem rm2 (l : Launch) (Z : State) (a0 : Array Value) (hw : ∀ d ∈ tables_1, d.before a0 Z = true) (ws : List Jvm.Cond) (a1 : Addr) (p2 : Int32) (p3 : Int32) (p4 : Int32) (p5 : Int32) (xk : ClassId) (xn : Int32) (xs : List Int32) (h0 : Heap) (n0 : Nat) (Z0 : n0 ≤ h0.size) (P0 : Arv Z h0 a1 xk .byte xn (xs.map Value.int) (.int (0 : Int32))) (h0i : ¬ p3 < 0) (h1i : p3 < xn) :
    MetFree l (⟨"org/ranktide/formats/LineReaderIndexOfPinLaw", "at", "([BBIII)Z"⟩ : MethodName) (head1 (Jvm.Cond.code (⟨"org/ranktide/formats/LineReaderIndexOfPinLaw", "at", "([BBIII)Z"⟩ : MethodName) method_2_code 5 (some .boolean) :: ws) ({ frames := 0, cells := 0, slots := 0, locals := 0 } : Room)) (fun a U => a = #[(.ref a1), (.int p2), (.int p3), (.int p4), (.int p5)] ∧ Z.Warmed39 U.vm ∧ U.heap = h0) (fun _ _ _ _ _ => True) (fun _ U o U' => ∃ v L, o = .returned v ∧ Q2 Z a1 p2 p3 p4 p5 xk xn xs h0 n0 v U'.heap L ∧ FrameEnd U o U' L ({ frames := 0, cells := 0, slots := 0, locals := 0 } : Room).cells ({ frames := 0, cells := 0, slots := 0, locals := 0 } : Room).slots) := by
  refine MetFree.of_bodySF (plainFor_of_name pn_2) hisR ?_
  intro p e s m args below meth c s₁ Bd hml0 hP hK
  obtain ⟨rfl, hZ, hh⟩ := hP
  have hx := Bd.exec
  have hby := Bd.bytes
  have hml : c.maxLocals = 5 := hml0
  have hown : s.vm.findClass "org/ranktide/formats/LineReaderIndexOfPinLaw" = some m.cls := findClass_of_methodNamed Bd.named
  have hnm := (name_of_methodNamed Bd.named Bd.method).1
  have X0 : Stand p l e ({ frames := 0, cells := 0, slots := 0, locals := 0 } : Room) s m #[(.ref a1), (.int p2), (.int p3), (.int p4), (.int p5)] below meth c s₁ [] 0 0 := Stand.of_body Bd
  have e0 : s₁.heap = h0 := by rw [← hh, Bd.state]; rfl
  have N0 := Fr.nil n0
  suffices G0 : ∀ K : State → Prop, (∀ (n : State) (v : Option Value) (L : List Loc), n.status = .running → Ended n below (.returned v) → Q2 Z a1 p2 p3 p4 p5 xk xn xs h0 n0 v n.heap L → FrameEnd s (.returned v) n L ({ frames := 0, cells := 0, slots := 0, locals := 0 } : Room).cells ({ frames := 0, cells := 0, slots := 0, locals := 0 } : Room).slots → K n) → own_Go p e below K (s₁.setTop (mkF m 0 #[.val (.ref a1), .val (.int p2), .val (.int p3), .val (.int p4), .val (.int p5)] [])) by
    obtain ⟨t, st, o, a, b, v, L, e1, q, fe⟩ := G0 (fun n => ∃ o, n.status = .running ∧ Ended n below o ∧ ∃ v L, o = .returned v ∧ Q2 Z a1 p2 p3 p4 p5 xk xn xs h0 n0 v n.heap L ∧ FrameEnd s o n L ({ frames := 0, cells := 0, slots := 0, locals := 0 } : Room).cells ({ frames := 0, cells := 0, slots := 0, locals := 0 } : Room).slots) (fun n v L a b q f => ⟨_, a, b, v, L, rfl, q, f⟩)
    exact ⟨t, o, castTop (ef_2 m a1 p2 p3 p4 p5) st, a, b, v, L, e1, q, fe⟩
  intro K fin
  show own_Go p e below K (s₁.setTop (mkF m 0 #[.val (.ref a1), .val (.int p2), .val (.int p3), .val (.int p4), .val (.int p5)] []))
  refine own_st (fun t k => XS.iloadN X0.here hx rfl (hb hby d2_0) rfl k) ?_
  show own_Go p e below K (s₁.setTop (mkF m 1 #[.val (.ref a1), .val (.int p2), .val (.int p3), .val (.int p4), .val (.int p5)] [(.int p3)]))
  refine own_st (fun t k => XS.iloadN X0.here hx rfl (hb hby d2_1) rfl k) ?_
  show own_Go p e below K (s₁.setTop (mkF m 2 #[.val (.ref a1), .val (.int p2), .val (.int p3), .val (.int p4), .val (.int p5)] [(.int p4), (.int p3)]))
  by_cases hc2 : p3 < p4
  · refine own_st (fun t k => XS.icmpYes X0.here hx rfl (pc0 := 2) (pc' := 22) rfl (hb hby d2_2) rfl (tlt hc2).1 (by decide) (by decide) k) ?_
    show own_Go p e below K (s₁.setTop (mkF m 22 #[.val (.ref a1), .val (.int p2), .val (.int p3), .val (.int p4), .val (.int p5)] []))
    refine own_st (fun t k => XS.iconst X0.here hx rfl (hb hby d2_22) k) ?_
    show own_Go p e below K (s₁.setTop (mkF m 23 #[.val (.ref a1), .val (.int p2), .val (.int p3), .val (.int p4), .val (.int p5)] [(.int (0 : Int32))]))
    obtain ⟨fs, hr, hrun, hended, hW, hsame⟩ := X0.leave (v := some (.int (nar .boolean (0 : Int32)))) (fun h => by rw [Bd.returns] at h; cases h)
    refine ⟨_, retN X0 hx (t := .boolean) Bd.returns (by simp) (hb hby d2_23) hr, fin _ _ _ hrun hended ?_ ⟨⟨_, rfl⟩, hW, hsame.mono (by decide) (by decide)⟩⟩
    show Q2 Z a1 p2 p3 p4 p5 xk xn xs h0 n0 _ s₁.heap _
    rw [e0]
    exact ⟨_, rfl, (own_B.no (by decide) (own_atN1 h0i hc2)), N0, rfl⟩
  refine own_st (fun t k => XS.icmpNo X0.here hx rfl (hb hby d2_2) rfl (flt hc2).1 k) ?_
  show own_Go p e below K (s₁.setTop (mkF m 5 #[.val (.ref a1), .val (.int p2), .val (.int p3), .val (.int p4), .val (.int p5)] []))
  refine own_st (fun t k => XS.iloadN X0.here hx rfl (hb hby d2_5) rfl k) ?_
  show own_Go p e below K (s₁.setTop (mkF m 6 #[.val (.ref a1), .val (.int p2), .val (.int p3), .val (.int p4), .val (.int p5)] [(.int p3)]))
  refine own_st (fun t k => XS.iload X0.here hx rfl (hb hby d2_6) rfl k) ?_
  show own_Go p e below K (s₁.setTop (mkF m 8 #[.val (.ref a1), .val (.int p2), .val (.int p3), .val (.int p4), .val (.int p5)] [(.int p5), (.int p3)]))
  by_cases hc8 : p3 < p5
  · refine own_st (fun t k => XS.icmpNo X0.here hx rfl (hb hby d2_8) rfl (tlt hc8).2.1 k) ?_
    show own_Go p e below K (s₁.setTop (mkF m 11 #[.val (.ref a1), .val (.int p2), .val (.int p3), .val (.int p4), .val (.int p5)] []))
    refine own_st (fun t k => XS.aloadN X0.here hx rfl (hb hby d2_11) rfl rfl k) ?_
    show own_Go p e below K (s₁.setTop (mkF m 12 #[.val (.ref a1), .val (.int p2), .val (.int p3), .val (.int p4), .val (.int p5)] [(.ref a1)]))
    refine own_st (fun t k => XS.iloadN X0.here hx rfl (hb hby d2_12) rfl k) ?_
    show own_Go p e below K (s₁.setTop (mkF m 13 #[.val (.ref a1), .val (.int p2), .val (.int p3), .val (.int p4), .val (.int p5)] [(.int p3), (.ref a1)]))
    obtain ⟨cl1, Ar1, q1, S1, M1, H1, G1⟩ := id P0
    have hin1 : ¬ (p3 < 0 ∨ cl1.slots.size ≤ (p3).toNatClampNeg) := inb_of S1 ⟨h0i, h1i⟩
    refine own_st (X0.baloadBytes hx (j := p3) (v := (.int (xs.getD (p3).toNatClampNeg 0))) (own_hat e0 Ar1.1) (State.isArrayOf_alike hZ.alike Ar1.2.1) Ar1.2.2 hin1 (Has.at H1 hin1 (own_atI xs _)) (g := (mkF m 13 #[.val (.ref a1), .val (.int p2), .val (.int p3), .val (.int p4), .val (.int p5)] [(.int p3), (.ref a1)])) rfl rfl (hb hby d2_13)) ?_
    show own_Go p e below K (s₁.setTop (mkF m 14 #[.val (.ref a1), .val (.int p2), .val (.int p3), .val (.int p4), .val (.int p5)] [(.int (xs.getD (p3).toNatClampNeg 0))]))
    refine own_st (fun t k => XS.iloadN X0.here hx rfl (hb hby d2_14) rfl k) ?_
    show own_Go p e below K (s₁.setTop (mkF m 15 #[.val (.ref a1), .val (.int p2), .val (.int p3), .val (.int p4), .val (.int p5)] [(.int p2), (.int (xs.getD (p3).toNatClampNeg 0))]))
    by_cases hc15 : (xs.getD (p3).toNatClampNeg 0) = p2
    · refine own_st (fun t k => XS.icmpNo X0.here hx rfl (hb hby d2_15) rfl (teq hc15).2 k) ?_
      show own_Go p e below K (s₁.setTop (mkF m 18 #[.val (.ref a1), .val (.int p2), .val (.int p3), .val (.int p4), .val (.int p5)] []))
      refine own_st (fun t k => XS.iconst X0.here hx rfl (hb hby d2_18) k) ?_
      show own_Go p e below K (s₁.setTop (mkF m 19 #[.val (.ref a1), .val (.int p2), .val (.int p3), .val (.int p4), .val (.int p5)] [(.int (1 : Int32))]))
      refine own_st (fun t k => XS.goto X0.here hx rfl (pc0 := 19) (pc' := 23) rfl (hb hby d2_19) (by decide) (by decide) k) ?_
      show own_Go p e below K (s₁.setTop (mkF m 23 #[.val (.ref a1), .val (.int p2), .val (.int p3), .val (.int p4), .val (.int p5)] [(.int (1 : Int32))]))
      obtain ⟨fs, hr, hrun, hended, hW, hsame⟩ := X0.leave (v := some (.int (nar .boolean (1 : Int32)))) (fun h => by rw [Bd.returns] at h; cases h)
      refine ⟨_, retN X0 hx (t := .boolean) Bd.returns (by simp) (hb hby d2_23) hr, fin _ _ _ hrun hended ?_ ⟨⟨_, rfl⟩, hW, hsame.mono (by decide) (by decide)⟩⟩
      show Q2 Z a1 p2 p3 p4 p5 xk xn xs h0 n0 _ s₁.heap _
      rw [e0]
      exact ⟨_, rfl, (own_B.yes (by decide) (own_atY h0i hc2 hc8 hc15)), N0, rfl⟩
    refine own_st (fun t k => XS.icmpYes X0.here hx rfl (pc0 := 15) (pc' := 22) rfl (hb hby d2_15) rfl (feq hc15).2 (by decide) (by decide) k) ?_
    show own_Go p e below K (s₁.setTop (mkF m 22 #[.val (.ref a1), .val (.int p2), .val (.int p3), .val (.int p4), .val (.int p5)] []))
    refine own_st (fun t k => XS.iconst X0.here hx rfl (hb hby d2_22) k) ?_
    show own_Go p e below K (s₁.setTop (mkF m 23 #[.val (.ref a1), .val (.int p2), .val (.int p3), .val (.int p4), .val (.int p5)] [(.int (0 : Int32))]))
    obtain ⟨fs, hr, hrun, hended, hW, hsame⟩ := X0.leave (v := some (.int (nar .boolean (0 : Int32)))) (fun h => by rw [Bd.returns] at h; cases h)
    refine ⟨_, retN X0 hx (t := .boolean) Bd.returns (by simp) (hb hby d2_23) hr, fin _ _ _ hrun hended ?_ ⟨⟨_, rfl⟩, hW, hsame.mono (by decide) (by decide)⟩⟩
    show Q2 Z a1 p2 p3 p4 p5 xk xn xs h0 n0 _ s₁.heap _
    rw [e0]
    exact ⟨_, rfl, (own_B.no (by decide) fun q => hc15 q.2.2), N0, rfl⟩
  refine own_st (fun t k => XS.icmpYes X0.here hx rfl (pc0 := 8) (pc' := 22) rfl (hb hby d2_8) rfl (flt hc8).2.1 (by decide) (by decide) k) ?_
  show own_Go p e below K (s₁.setTop (mkF m 22 #[.val (.ref a1), .val (.int p2), .val (.int p3), .val (.int p4), .val (.int p5)] []))
  refine own_st (fun t k => XS.iconst X0.here hx rfl (hb hby d2_22) k) ?_
  show own_Go p e below K (s₁.setTop (mkF m 23 #[.val (.ref a1), .val (.int p2), .val (.int p3), .val (.int p4), .val (.int p5)] [(.int (0 : Int32))]))
  obtain ⟨fs, hr, hrun, hended, hW, hsame⟩ := X0.leave (v := some (.int (nar .boolean (0 : Int32)))) (fun h => by rw [Bd.returns] at h; cases h)
  refine ⟨_, retN X0 hx (t := .boolean) Bd.returns (by simp) (hb hby d2_23) hr, fin _ _ _ hrun hended ?_ ⟨⟨_, rfl⟩, hW, hsame.mono (by decide) (by decide)⟩⟩
  show Q2 Z a1 p2 p3 p4 p5 xk xn xs h0 n0 _ s₁.heap _
  rw [e0]
  exact ⟨_, rfl, (own_B.no (by decide) (own_atN2 h0i hc8)), N0, rfl⟩
theorem pn_0 : plainName "org/ranktide/formats/LineReaderIndexOfPinLaw" = true := by first | (simp [plainName, overriddenIn]; done) | decide +kernel
theorem pd_0_0 : parseMethodDescriptor "([BBII)I" = some ⟨[(.array .byte), .byte, .int, .int], some .int⟩ := by decide +kernel
theorem pd_0_1 : parseMethodDescriptor "([BBIII)Z" = some ⟨[(.array .byte), .byte, .int, .int, .int], some .boolean⟩ := by decide +kernel
theorem ef_0 (m : MethodId) (x0 : Int32) (x1 : Int32) (x2 : Int32) (x3 : Int32) : entryFrame m #[(.int x0), (.int x1), (.int x2), (.int x3)] maxLocals = mkF m 0 #[.val (.int x0), .val (.int x1), .val (.int x2), .val (.int x3), .unset, .unset, .unset, .unset, .unset, .unset, .unset, .unset] [] := by first | (simp [entryFrame, mkF, argsToLocals, Value.category, maxLocals]; done) | rfl
def Q0 (Z : State) (p1 : Int32) (p2 : Int32) (p3 : Int32) (p4 : Int32) (h0 : Heap) (n0 : Nat) (v : Option Value) (h : Heap) (L : List Loc) : Prop := v = some (.int 1) ∧ Fr n0 L
set_option maxRecDepth 65536 in
set_option maxHeartbeats 40000000 in
theorem rm0 (l : Launch) (Z : State) (a0 : Array Value) (hw : ∀ d ∈ tables_1, d.before a0 Z = true) (ws : List Jvm.Cond) (p1 : Int32) (p2 : Int32) (p3 : Int32) (p4 : Int32) (h0 : Heap) (n0 : Nat) (Z0 : n0 ≤ h0.size)  :
    MetFree l x (head1 (Jvm.Cond.code x code maxLocals ret :: ws) room_1) (fun a U => a = #[(.int p1), (.int p2), (.int p3), (.int p4)] ∧ Z.Warmed39 U.vm ∧ U.heap = h0) (fun _ _ _ _ _ => True) (fun _ U o U' => ∃ v L, o = .returned v ∧ Q0 Z p1 p2 p3 p4 h0 n0 v U'.heap L ∧ FrameEnd U o U' L 1 4) := by
  refine MetFree.of_bodySF (plainFor_of_name pn_0) hisR ?_
  intro p e s m args below meth c s₁ Bd hml0 hP hK
  obtain ⟨rfl, hZ, hh⟩ := hP
  have hx := Bd.exec
  have hby := Bd.bytes
  have hml : c.maxLocals = 12 := hml0
  have hown : s.vm.findClass "org/ranktide/formats/LineReaderIndexOfPinLaw" = some m.cls := findClass_of_methodNamed Bd.named
  have hnm := (name_of_methodNamed Bd.named Bd.method).1
  have X0 : Stand p l e room_1 s m #[(.int p1), (.int p2), (.int p3), (.int p4)] below meth c s₁ [] 0 0 := Stand.of_body Bd
  have e0 : s₁.heap = h0 := by rw [← hh, Bd.state]; rfl
  have N0 := Fr.nil n0
  suffices G0 : ∀ K : State → Prop, (∀ (n : State) (v : Option Value) (L : List Loc), n.status = .running → Ended n below (.returned v) → Q0 Z p1 p2 p3 p4 h0 n0 v n.heap L → FrameEnd s (.returned v) n L 1 4 → K n) → own_Go p e below K (s₁.setTop (mkF m 0 #[.val (.int p1), .val (.int p2), .val (.int p3), .val (.int p4), .unset, .unset, .unset, .unset, .unset, .unset, .unset, .unset] [])) by
    obtain ⟨t, st, o, a, b, v, L, e1, q, fe⟩ := G0 (fun n => ∃ o, n.status = .running ∧ Ended n below o ∧ ∃ v L, o = .returned v ∧ Q0 Z p1 p2 p3 p4 h0 n0 v n.heap L ∧ FrameEnd s o n L 1 4) (fun n v L a b q f => ⟨_, a, b, v, L, rfl, q, f⟩)
    exact ⟨t, o, castTop (ef_0 m p1 p2 p3 p4) st, a, b, v, L, e1, q, fe⟩
  intro K fin
  show own_Go p e below K (s₁.setTop (mkF m 0 #[.val (.int p1), .val (.int p2), .val (.int p3), .val (.int p4), .unset, .unset, .unset, .unset, .unset, .unset, .unset, .unset] []))
  refine own_st (fun t k => XS.iconst X0.here hx rfl (hb hby at_0) k) ?_
  show own_Go p e below K (s₁.setTop (mkF m 1 #[.val (.int p1), .val (.int p2), .val (.int p3), .val (.int p4), .unset, .unset, .unset, .unset, .unset, .unset, .unset, .unset] [(.int (4 : Int32))]))
  obtain ⟨T1, h1, k1, X1, e1, E1, A1, st1⟩ := newP X0 hx hZ (hw _ (List.mem_of_getElem? (i := 0) rfl)) e0 (g := (mkF m 1 #[.val (.int p1), .val (.int p2), .val (.int p3), .val (.int p4), .unset, .unset, .unset, .unset, .unset, .unset, .unset, .unset] [(.int (4 : Int32))])) rfl (hb hby at_1) rfl (by decide) (cap := 4) (by decide) (by decide) (by decide) (by decide)
  obtain ⟨b1, g1⟩ : ∃ z, z = h0.size := ⟨_, rfl⟩
  rw [← g1] at A1 st1
  have g_b1 : n0 ≤ b1 := Nat.le_trans Z0 (Nat.le_of_eq g1.symm)
  have V1 : Arv Z h1 b1 k1 .byte (4 : Int32) [(.int (0 : Int32)), (.int (0 : Int32)), (.int (0 : Int32)), (.int (0 : Int32))] (.int (0 : Int32)) := (Arv.new A1 (by decide)).pad (pad_rep [] (.int (0 : Int32)) 4)
  have Z1 : n0 ≤ h1.size := Nat.le_trans Z0 E1.1
  refine own_st st1 ?_
  show own_Go p e below K (T1.setTop (mkF m 3 #[.val (.int p1), .val (.int p2), .val (.int p3), .val (.int p4), .unset, .unset, .unset, .unset, .unset, .unset, .unset, .unset] [(.ref b1)]))
  refine own_st (fun t k => XS.astore X1.here hx rfl (hb hby at_3) rfl rfl (l' := #[.val (.int p1), .val (.int p2), .val (.int p3), .val (.int p4), .val (.ref b1), .unset, .unset, .unset, .unset, .unset, .unset, .unset]) rfl k) ?_
  show own_Go p e below K (T1.setTop (mkF m 5 #[.val (.int p1), .val (.int p2), .val (.int p3), .val (.int p4), .val (.ref b1), .unset, .unset, .unset, .unset, .unset, .unset, .unset] []))
  refine own_st (fun t k => XS.aload X1.here hx rfl (hb hby at_5) rfl rfl k) ?_
  show own_Go p e below K (T1.setTop (mkF m 7 #[.val (.int p1), .val (.int p2), .val (.int p3), .val (.int p4), .val (.ref b1), .unset, .unset, .unset, .unset, .unset, .unset, .unset] [(.ref b1)]))
  refine own_st (fun t k => XS.iconst X1.here hx rfl (hb hby at_7) k) ?_
  show own_Go p e below K (T1.setTop (mkF m 8 #[.val (.int p1), .val (.int p2), .val (.int p3), .val (.int p4), .val (.ref b1), .unset, .unset, .unset, .unset, .unset, .unset, .unset] [(.int (0 : Int32)), (.ref b1)]))
  refine own_st (fun t k => XS.iloadN X1.here hx rfl (hb hby at_8) rfl k) ?_
  show own_Go p e below K (T1.setTop (mkF m 9 #[.val (.int p1), .val (.int p2), .val (.int p3), .val (.int p4), .val (.ref b1), .unset, .unset, .unset, .unset, .unset, .unset, .unset] [(.int p1), (.int (0 : Int32)), (.ref b1)]))
  refine own_st (fun t k => XS.i2b X1.here hx rfl (hb hby at_9) rfl k) ?_
  show own_Go p e below K (T1.setTop (mkF m 10 #[.val (.int p1), .val (.int p2), .val (.int p3), .val (.int p4), .val (.ref b1), .unset, .unset, .unset, .unset, .unset, .unset, .unset] [(.int (p1.toInt8.toInt32)), (.int (0 : Int32)), (.ref b1)]))
  obtain ⟨cl2, Ar2, q2, S2, M2, H2, G2⟩ := id V1
  have hin2 : ¬ ((0 : Int32) < 0 ∨ cl2.slots.size ≤ ((0 : Int32)).toNatClampNeg) := inb_of S2 ⟨by decide, by decide⟩
  obtain ⟨T3, h3, X3, e3, W3, st3⟩ := stB X1 hx hZ e1 Ar2 (j := (0 : Int32)) hin2 (g := (mkF m 10 #[.val (.int p1), .val (.int p2), .val (.int p3), .val (.int p4), .val (.ref b1), .unset, .unset, .unset, .unset, .unset, .unset, .unset] [(.int (p1.toInt8.toInt32)), (.int (0 : Int32)), (.ref b1)])) rfl rfl (hb hby at_10)
  have id3 : nar .byte (p1.toInt8.toInt32) = (p1.toInt8.toInt32) := (own_nb _)
  rw [id3] at W3
  have V3 : Arv Z h3 b1 k1 .byte (4 : Int32) [(.int (p1.toInt8.toInt32)), (.int (0 : Int32)), (.int (0 : Int32)), (.int (0 : Int32))] (.int (0 : Int32)) := Arv.set Ar2 q2 S2 M2 H2 G2 (own_fit id3) W3 0 rfl (Nat.le_of_ble_eq_true rfl)
  have N3 := Fr.snoc X3 N0 g_b1
  have Z3 : n0 ≤ h3.size := Nat.le_trans Z1 (Keep.of_wr W3).1
  refine own_st st3 ?_
  show own_Go p e below K (T3.setTop (mkF m 11 #[.val (.int p1), .val (.int p2), .val (.int p3), .val (.int p4), .val (.ref b1), .unset, .unset, .unset, .unset, .unset, .unset, .unset] []))
  refine own_st (fun t k => XS.aload X3.here hx rfl (hb hby at_11) rfl rfl k) ?_
  show own_Go p e below K (T3.setTop (mkF m 13 #[.val (.int p1), .val (.int p2), .val (.int p3), .val (.int p4), .val (.ref b1), .unset, .unset, .unset, .unset, .unset, .unset, .unset] [(.ref b1)]))
  refine own_st (fun t k => XS.iconst X3.here hx rfl (hb hby at_13) k) ?_
  show own_Go p e below K (T3.setTop (mkF m 14 #[.val (.int p1), .val (.int p2), .val (.int p3), .val (.int p4), .val (.ref b1), .unset, .unset, .unset, .unset, .unset, .unset, .unset] [(.int (1 : Int32)), (.ref b1)]))
  refine own_st (fun t k => XS.iloadN X3.here hx rfl (hb hby at_14) rfl k) ?_
  show own_Go p e below K (T3.setTop (mkF m 15 #[.val (.int p1), .val (.int p2), .val (.int p3), .val (.int p4), .val (.ref b1), .unset, .unset, .unset, .unset, .unset, .unset, .unset] [(.int p1), (.int (1 : Int32)), (.ref b1)]))
  refine own_st (fun t k => XS.bipush X3.here hx rfl (hb hby at_15) k) ?_
  show own_Go p e below K (T3.setTop (mkF m 17 #[.val (.int p1), .val (.int p2), .val (.int p3), .val (.int p4), .val (.ref b1), .unset, .unset, .unset, .unset, .unset, .unset, .unset] [(.int (8 : Int32)), (.int p1), (.int (1 : Int32)), (.ref b1)]))
  refine own_st (fun t k => XS.ishr X3.here hx rfl (hb hby at_17) rfl k) ?_
  show own_Go p e below K (T3.setTop (mkF m 18 #[.val (.int p1), .val (.int p2), .val (.int p3), .val (.int p4), .val (.ref b1), .unset, .unset, .unset, .unset, .unset, .unset, .unset] [(.int (p1 >>> ((8 : Int32) &&& 31))), (.int (1 : Int32)), (.ref b1)]))
  refine own_st (fun t k => XS.i2b X3.here hx rfl (hb hby at_18) rfl k) ?_
  show own_Go p e below K (T3.setTop (mkF m 19 #[.val (.int p1), .val (.int p2), .val (.int p3), .val (.int p4), .val (.ref b1), .unset, .unset, .unset, .unset, .unset, .unset, .unset] [(.int ((p1 >>> ((8 : Int32) &&& 31)).toInt8.toInt32)), (.int (1 : Int32)), (.ref b1)]))
  obtain ⟨cl4, Ar4, q4, S4, M4, H4, G4⟩ := id V3
  have hin4 : ¬ ((1 : Int32) < 0 ∨ cl4.slots.size ≤ ((1 : Int32)).toNatClampNeg) := inb_of S4 ⟨by decide, by decide⟩
  obtain ⟨T5, h5, X5, e5, W5, st5⟩ := stB X3 hx hZ e3 Ar4 (j := (1 : Int32)) hin4 (g := (mkF m 19 #[.val (.int p1), .val (.int p2), .val (.int p3), .val (.int p4), .val (.ref b1), .unset, .unset, .unset, .unset, .unset, .unset, .unset] [(.int ((p1 >>> ((8 : Int32) &&& 31)).toInt8.toInt32)), (.int (1 : Int32)), (.ref b1)])) rfl rfl (hb hby at_19)
  have id5 : nar .byte ((p1 >>> ((8 : Int32) &&& 31)).toInt8.toInt32) = ((p1 >>> ((8 : Int32) &&& 31)).toInt8.toInt32) := (own_nb _)
  rw [id5] at W5
  have V5 : Arv Z h5 b1 k1 .byte (4 : Int32) [(.int (p1.toInt8.toInt32)), (.int ((p1 >>> ((8 : Int32) &&& 31)).toInt8.toInt32)), (.int (0 : Int32)), (.int (0 : Int32))] (.int (0 : Int32)) := Arv.set Ar4 q4 S4 M4 H4 G4 (own_fit id5) W5 1 rfl (Nat.le_of_ble_eq_true rfl)
  have N5 := Fr.snoc X5 N3 g_b1
  have Z5 : n0 ≤ h5.size := Nat.le_trans Z3 (Keep.of_wr W5).1
  refine own_st st5 ?_
  show own_Go p e below K (T5.setTop (mkF m 20 #[.val (.int p1), .val (.int p2), .val (.int p3), .val (.int p4), .val (.ref b1), .unset, .unset, .unset, .unset, .unset, .unset, .unset] []))
  refine own_st (fun t k => XS.aload X5.here hx rfl (hb hby at_20) rfl rfl k) ?_
  show own_Go p e below K (T5.setTop (mkF m 22 #[.val (.int p1), .val (.int p2), .val (.int p3), .val (.int p4), .val (.ref b1), .unset, .unset, .unset, .unset, .unset, .unset, .unset] [(.ref b1)]))
  refine own_st (fun t k => XS.iconst X5.here hx rfl (hb hby at_22) k) ?_
  show own_Go p e below K (T5.setTop (mkF m 23 #[.val (.int p1), .val (.int p2), .val (.int p3), .val (.int p4), .val (.ref b1), .unset, .unset, .unset, .unset, .unset, .unset, .unset] [(.int (2 : Int32)), (.ref b1)]))
  refine own_st (fun t k => XS.iloadN X5.here hx rfl (hb hby at_23) rfl k) ?_
  show own_Go p e below K (T5.setTop (mkF m 24 #[.val (.int p1), .val (.int p2), .val (.int p3), .val (.int p4), .val (.ref b1), .unset, .unset, .unset, .unset, .unset, .unset, .unset] [(.int p1), (.int (2 : Int32)), (.ref b1)]))
  refine own_st (fun t k => XS.bipush X5.here hx rfl (hb hby at_24) k) ?_
  show own_Go p e below K (T5.setTop (mkF m 26 #[.val (.int p1), .val (.int p2), .val (.int p3), .val (.int p4), .val (.ref b1), .unset, .unset, .unset, .unset, .unset, .unset, .unset] [(.int (16 : Int32)), (.int p1), (.int (2 : Int32)), (.ref b1)]))
  refine own_st (fun t k => XS.ishr X5.here hx rfl (hb hby at_26) rfl k) ?_
  show own_Go p e below K (T5.setTop (mkF m 27 #[.val (.int p1), .val (.int p2), .val (.int p3), .val (.int p4), .val (.ref b1), .unset, .unset, .unset, .unset, .unset, .unset, .unset] [(.int (p1 >>> ((16 : Int32) &&& 31))), (.int (2 : Int32)), (.ref b1)]))
  refine own_st (fun t k => XS.i2b X5.here hx rfl (hb hby at_27) rfl k) ?_
  show own_Go p e below K (T5.setTop (mkF m 28 #[.val (.int p1), .val (.int p2), .val (.int p3), .val (.int p4), .val (.ref b1), .unset, .unset, .unset, .unset, .unset, .unset, .unset] [(.int ((p1 >>> ((16 : Int32) &&& 31)).toInt8.toInt32)), (.int (2 : Int32)), (.ref b1)]))
  obtain ⟨cl6, Ar6, q6, S6, M6, H6, G6⟩ := id V5
  have hin6 : ¬ ((2 : Int32) < 0 ∨ cl6.slots.size ≤ ((2 : Int32)).toNatClampNeg) := inb_of S6 ⟨by decide, by decide⟩
  obtain ⟨T7, h7, X7, e7, W7, st7⟩ := stB X5 hx hZ e5 Ar6 (j := (2 : Int32)) hin6 (g := (mkF m 28 #[.val (.int p1), .val (.int p2), .val (.int p3), .val (.int p4), .val (.ref b1), .unset, .unset, .unset, .unset, .unset, .unset, .unset] [(.int ((p1 >>> ((16 : Int32) &&& 31)).toInt8.toInt32)), (.int (2 : Int32)), (.ref b1)])) rfl rfl (hb hby at_28)
  have id7 : nar .byte ((p1 >>> ((16 : Int32) &&& 31)).toInt8.toInt32) = ((p1 >>> ((16 : Int32) &&& 31)).toInt8.toInt32) := (own_nb _)
  rw [id7] at W7
  have V7 : Arv Z h7 b1 k1 .byte (4 : Int32) [(.int (p1.toInt8.toInt32)), (.int ((p1 >>> ((8 : Int32) &&& 31)).toInt8.toInt32)), (.int ((p1 >>> ((16 : Int32) &&& 31)).toInt8.toInt32)), (.int (0 : Int32))] (.int (0 : Int32)) := Arv.set Ar6 q6 S6 M6 H6 G6 (own_fit id7) W7 2 rfl (Nat.le_of_ble_eq_true rfl)
  have N7 := Fr.snoc X7 N5 g_b1
  have Z7 : n0 ≤ h7.size := Nat.le_trans Z5 (Keep.of_wr W7).1
  refine own_st st7 ?_
  show own_Go p e below K (T7.setTop (mkF m 29 #[.val (.int p1), .val (.int p2), .val (.int p3), .val (.int p4), .val (.ref b1), .unset, .unset, .unset, .unset, .unset, .unset, .unset] []))
  refine own_st (fun t k => XS.aload X7.here hx rfl (hb hby at_29) rfl rfl k) ?_
  show own_Go p e below K (T7.setTop (mkF m 31 #[.val (.int p1), .val (.int p2), .val (.int p3), .val (.int p4), .val (.ref b1), .unset, .unset, .unset, .unset, .unset, .unset, .unset] [(.ref b1)]))
  refine own_st (fun t k => XS.iconst X7.here hx rfl (hb hby at_31) k) ?_
  show own_Go p e below K (T7.setTop (mkF m 32 #[.val (.int p1), .val (.int p2), .val (.int p3), .val (.int p4), .val (.ref b1), .unset, .unset, .unset, .unset, .unset, .unset, .unset] [(.int (3 : Int32)), (.ref b1)]))
  refine own_st (fun t k => XS.iloadN X7.here hx rfl (hb hby at_32) rfl k) ?_
  show own_Go p e below K (T7.setTop (mkF m 33 #[.val (.int p1), .val (.int p2), .val (.int p3), .val (.int p4), .val (.ref b1), .unset, .unset, .unset, .unset, .unset, .unset, .unset] [(.int p1), (.int (3 : Int32)), (.ref b1)]))
  refine own_st (fun t k => XS.bipush X7.here hx rfl (hb hby at_33) k) ?_
  show own_Go p e below K (T7.setTop (mkF m 35 #[.val (.int p1), .val (.int p2), .val (.int p3), .val (.int p4), .val (.ref b1), .unset, .unset, .unset, .unset, .unset, .unset, .unset] [(.int (24 : Int32)), (.int p1), (.int (3 : Int32)), (.ref b1)]))
  refine own_st (fun t k => XS.iushr X7.here hx rfl (hb hby at_35) rfl k) ?_
  show own_Go p e below K (T7.setTop (mkF m 36 #[.val (.int p1), .val (.int p2), .val (.int p3), .val (.int p4), .val (.ref b1), .unset, .unset, .unset, .unset, .unset, .unset, .unset] [(.int ((p1.toUInt32 >>> ((24 : Int32) &&& 31).toUInt32).toInt32)), (.int (3 : Int32)), (.ref b1)]))
  refine own_st (fun t k => XS.i2b X7.here hx rfl (hb hby at_36) rfl k) ?_
  show own_Go p e below K (T7.setTop (mkF m 37 #[.val (.int p1), .val (.int p2), .val (.int p3), .val (.int p4), .val (.ref b1), .unset, .unset, .unset, .unset, .unset, .unset, .unset] [(.int (((p1.toUInt32 >>> ((24 : Int32) &&& 31).toUInt32).toInt32).toInt8.toInt32)), (.int (3 : Int32)), (.ref b1)]))
  obtain ⟨cl8, Ar8, q8, S8, M8, H8, G8⟩ := id V7
  have hin8 : ¬ ((3 : Int32) < 0 ∨ cl8.slots.size ≤ ((3 : Int32)).toNatClampNeg) := inb_of S8 ⟨by decide, by decide⟩
  obtain ⟨T9, h9, X9, e9, W9, st9⟩ := stB X7 hx hZ e7 Ar8 (j := (3 : Int32)) hin8 (g := (mkF m 37 #[.val (.int p1), .val (.int p2), .val (.int p3), .val (.int p4), .val (.ref b1), .unset, .unset, .unset, .unset, .unset, .unset, .unset] [(.int (((p1.toUInt32 >>> ((24 : Int32) &&& 31).toUInt32).toInt32).toInt8.toInt32)), (.int (3 : Int32)), (.ref b1)])) rfl rfl (hb hby at_37)
  have id9 : nar .byte (((p1.toUInt32 >>> ((24 : Int32) &&& 31).toUInt32).toInt32).toInt8.toInt32) = (((p1.toUInt32 >>> ((24 : Int32) &&& 31).toUInt32).toInt32).toInt8.toInt32) := (own_nb _)
  rw [id9] at W9
  have V9 : Arv Z h9 b1 k1 .byte (4 : Int32) [(.int (p1.toInt8.toInt32)), (.int ((p1 >>> ((8 : Int32) &&& 31)).toInt8.toInt32)), (.int ((p1 >>> ((16 : Int32) &&& 31)).toInt8.toInt32)), (.int (((p1.toUInt32 >>> ((24 : Int32) &&& 31).toUInt32).toInt32).toInt8.toInt32))] (.int (0 : Int32)) := Arv.set Ar8 q8 S8 M8 H8 G8 (own_fit id9) W9 3 rfl (Nat.le_of_ble_eq_true rfl)
  have N9 := Fr.snoc X9 N7 g_b1
  have Z9 : n0 ≤ h9.size := Nat.le_trans Z7 (Keep.of_wr W9).1
  refine own_st st9 ?_
  show own_Go p e below K (T9.setTop (mkF m 38 #[.val (.int p1), .val (.int p2), .val (.int p3), .val (.int p4), .val (.ref b1), .unset, .unset, .unset, .unset, .unset, .unset, .unset] []))
  refine own_st (fun t k => XS.iloadN X9.here hx rfl (hb hby at_38) rfl k) ?_
  show own_Go p e below K (T9.setTop (mkF m 39 #[.val (.int p1), .val (.int p2), .val (.int p3), .val (.int p4), .val (.ref b1), .unset, .unset, .unset, .unset, .unset, .unset, .unset] [(.int p2)]))
  refine own_st (fun t k => XS.bipush X9.here hx rfl (hb hby at_39) k) ?_
  show own_Go p e below K (T9.setTop (mkF m 41 #[.val (.int p1), .val (.int p2), .val (.int p3), .val (.int p4), .val (.ref b1), .unset, .unset, .unset, .unset, .unset, .unset, .unset] [(.int (7 : Int32)), (.int p2)]))
  refine own_st (fun t k => XS.iand X9.here hx rfl (hb hby at_41) rfl k) ?_
  show own_Go p e below K (T9.setTop (mkF m 42 #[.val (.int p1), .val (.int p2), .val (.int p3), .val (.int p4), .val (.ref b1), .unset, .unset, .unset, .unset, .unset, .unset, .unset] [(.int (p2 &&& (7 : Int32)))]))
  generalize hsl : (p2 &&& (7 : Int32)) = sl
  show own_Go p e below K (T9.setTop (mkF m 42 #[.val (.int p1), .val (.int p2), .val (.int p3), .val (.int p4), .val (.ref b1), .unset, .unset, .unset, .unset, .unset, .unset, .unset] [(.int sl)]))
  obtain ⟨bs, hbs⟩ : ∃ z : List Int32, z = [(p1.toInt8.toInt32), ((p1 >>> ((8 : Int32) &&& 31)).toInt8.toInt32), ((p1 >>> ((16 : Int32) &&& 31)).toInt8.toInt32), (((p1.toUInt32 >>> ((24 : Int32) &&& 31).toUInt32).toInt32).toInt8.toInt32)] := ⟨_, rfl⟩
  have V10 : Arv Z h9 b1 k1 .byte (4 : Int32) (bs.map Value.int) (.int (0 : Int32)) := by rw [hbs]; exact V9
  have Bs := own_m7 hsl
  refine own_st (fun t k => XS.istore X9.here hx rfl (hb hby at_42) rfl (l' := #[.val (.int p1), .val (.int p2), .val (.int p3), .val (.int p4), .val (.ref b1), .val (.int sl), .unset, .unset, .unset, .unset, .unset, .unset]) rfl k) ?_
  show own_Go p e below K (T9.setTop (mkF m 44 #[.val (.int p1), .val (.int p2), .val (.int p3), .val (.int p4), .val (.ref b1), .val (.int sl), .unset, .unset, .unset, .unset, .unset, .unset] []))
  have J63 : ∀ (T' : State) (locs' : List Loc) (X' : Stand p l e room_1 s m #[(.int p1), (.int p2), (.int p3), (.int p4)] below meth c T' locs' 1 4) (e' : T'.heap = h9) (N' : Fr n0 locs') (wn0 : Int32), (True) → own_Go p e below K (T'.setTop (mkF m 63 #[.val (.int p1), .val (.int p2), .val (.int p3), .val (.int p4), .val (.ref b1), .val (.int sl), .unset, .unset, .unset, .unset, .unset, .unset] [(.int wn0)])) := by
    intro T11 locs11 X11 e11 N11 wn0 hj63
    refine own_st (fun t k => XS.istore X11.here hx rfl (hb hby at_63) rfl (l' := #[.val (.int p1), .val (.int p2), .val (.int p3), .val (.int p4), .val (.ref b1), .val (.int sl), .val (.int wn0), .unset, .unset, .unset, .unset, .unset]) rfl k) ?_
    show own_Go p e below K (T11.setTop (mkF m 65 #[.val (.int p1), .val (.int p2), .val (.int p3), .val (.int p4), .val (.ref b1), .val (.int sl), .val (.int wn0), .unset, .unset, .unset, .unset, .unset] []))
    refine own_st (fun t k => XS.iloadN X11.here hx rfl (hb hby at_65) rfl k) ?_
    show own_Go p e below K (T11.setTop (mkF m 66 #[.val (.int p1), .val (.int p2), .val (.int p3), .val (.int p4), .val (.ref b1), .val (.int sl), .val (.int wn0), .unset, .unset, .unset, .unset, .unset] [(.int p3)]))
    refine own_st (X11.ldcInt hx hown (mvT hZ (hw _ (List.mem_of_getElem? (i := 1) rfl))) (g := (mkF m 66 #[.val (.int p1), .val (.int p2), .val (.int p3), .val (.int p4), .val (.ref b1), .val (.int sl), .val (.int wn0), .unset, .unset, .unset, .unset, .unset] [(.int p3)])) rfl (hb hby at_66)) ?_
    show own_Go p e below K (T11.setTop (mkF m 68 #[.val (.int p1), .val (.int p2), .val (.int p3), .val (.int p4), .val (.ref b1), .val (.int sl), .val (.int wn0), .unset, .unset, .unset, .unset, .unset] [(.int (2147483647 : Int32)), (.int p3)]))
    refine own_st (fun t k => XS.iand X11.here hx rfl (hb hby at_68) rfl k) ?_
    show own_Go p e below K (T11.setTop (mkF m 69 #[.val (.int p1), .val (.int p2), .val (.int p3), .val (.int p4), .val (.ref b1), .val (.int sl), .val (.int wn0), .unset, .unset, .unset, .unset, .unset] [(.int (p3 &&& (2147483647 : Int32)))]))
    refine own_st (fun t k => XS.iconst X11.here hx rfl (hb hby at_69) k) ?_
    show own_Go p e below K (T11.setTop (mkF m 70 #[.val (.int p1), .val (.int p2), .val (.int p3), .val (.int p4), .val (.ref b1), .val (.int sl), .val (.int wn0), .unset, .unset, .unset, .unset, .unset] [(.int (5 : Int32)), (.int (p3 &&& (2147483647 : Int32)))]))
    refine own_st (fun t k => iremM X11 hx rfl (hb hby at_70) rfl (by decide) k) ?_
    show own_Go p e below K (T11.setTop (mkF m 71 #[.val (.int p1), .val (.int p2), .val (.int p3), .val (.int p4), .val (.ref b1), .val (.int sl), .val (.int wn0), .unset, .unset, .unset, .unset, .unset] [(.int ((p3 &&& (2147483647 : Int32)) % (5 : Int32)))]))
    generalize hfi : ((p3 &&& (2147483647 : Int32)) % (5 : Int32)) = fi
    show own_Go p e below K (T11.setTop (mkF m 71 #[.val (.int p1), .val (.int p2), .val (.int p3), .val (.int p4), .val (.ref b1), .val (.int sl), .val (.int wn0), .unset, .unset, .unset, .unset, .unset] [(.int fi)]))
    have Bf := own_rem5 hfi
    refine own_st (fun t k => XS.istore X11.here hx rfl (hb hby at_71) rfl (l' := #[.val (.int p1), .val (.int p2), .val (.int p3), .val (.int p4), .val (.ref b1), .val (.int sl), .val (.int wn0), .val (.int fi), .unset, .unset, .unset, .unset]) rfl k) ?_
    show own_Go p e below K (T11.setTop (mkF m 73 #[.val (.int p1), .val (.int p2), .val (.int p3), .val (.int p4), .val (.ref b1), .val (.int sl), .val (.int wn0), .val (.int fi), .unset, .unset, .unset, .unset] []))
    refine own_st (fun t k => XS.iloadN X11.here hx rfl (hb hby at_73) rfl k) ?_
    show own_Go p e below K (T11.setTop (mkF m 74 #[.val (.int p1), .val (.int p2), .val (.int p3), .val (.int p4), .val (.ref b1), .val (.int sl), .val (.int wn0), .val (.int fi), .unset, .unset, .unset, .unset] [(.int p4)]))
    refine own_st (X11.ldcInt hx hown (mvT hZ (hw _ (List.mem_of_getElem? (i := 1) rfl))) (g := (mkF m 74 #[.val (.int p1), .val (.int p2), .val (.int p3), .val (.int p4), .val (.ref b1), .val (.int sl), .val (.int wn0), .val (.int fi), .unset, .unset, .unset, .unset] [(.int p4)])) rfl (hb hby at_74)) ?_
    show own_Go p e below K (T11.setTop (mkF m 76 #[.val (.int p1), .val (.int p2), .val (.int p3), .val (.int p4), .val (.ref b1), .val (.int sl), .val (.int wn0), .val (.int fi), .unset, .unset, .unset, .unset] [(.int (2147483647 : Int32)), (.int p4)]))
    refine own_st (fun t k => XS.iand X11.here hx rfl (hb hby at_76) rfl k) ?_
    show own_Go p e below K (T11.setTop (mkF m 77 #[.val (.int p1), .val (.int p2), .val (.int p3), .val (.int p4), .val (.ref b1), .val (.int sl), .val (.int wn0), .val (.int fi), .unset, .unset, .unset, .unset] [(.int (p4 &&& (2147483647 : Int32)))]))
    refine own_st (fun t k => XS.iconst X11.here hx rfl (hb hby at_77) k) ?_
    show own_Go p e below K (T11.setTop (mkF m 78 #[.val (.int p1), .val (.int p2), .val (.int p3), .val (.int p4), .val (.ref b1), .val (.int sl), .val (.int wn0), .val (.int fi), .unset, .unset, .unset, .unset] [(.int (5 : Int32)), (.int (p4 &&& (2147483647 : Int32)))]))
    refine own_st (fun t k => iremM X11 hx rfl (hb hby at_78) rfl (by decide) k) ?_
    show own_Go p e below K (T11.setTop (mkF m 79 #[.val (.int p1), .val (.int p2), .val (.int p3), .val (.int p4), .val (.ref b1), .val (.int sl), .val (.int wn0), .val (.int fi), .unset, .unset, .unset, .unset] [(.int ((p4 &&& (2147483647 : Int32)) % (5 : Int32)))]))
    generalize hti : ((p4 &&& (2147483647 : Int32)) % (5 : Int32)) = ti
    show own_Go p e below K (T11.setTop (mkF m 79 #[.val (.int p1), .val (.int p2), .val (.int p3), .val (.int p4), .val (.ref b1), .val (.int sl), .val (.int wn0), .val (.int fi), .unset, .unset, .unset, .unset] [(.int ti)]))
    have Bt := own_rem5 hti
    refine own_st (fun t k => XS.istore X11.here hx rfl (hb hby at_79) rfl (l' := #[.val (.int p1), .val (.int p2), .val (.int p3), .val (.int p4), .val (.ref b1), .val (.int sl), .val (.int wn0), .val (.int fi), .val (.int ti), .unset, .unset, .unset]) rfl k) ?_
    show own_Go p e below K (T11.setTop (mkF m 81 #[.val (.int p1), .val (.int p2), .val (.int p3), .val (.int p4), .val (.ref b1), .val (.int sl), .val (.int wn0), .val (.int fi), .val (.int ti), .unset, .unset, .unset] []))
    refine own_st (fun t k => XS.aload X11.here hx rfl (hb hby at_81) rfl rfl k) ?_
    show own_Go p e below K (T11.setTop (mkF m 83 #[.val (.int p1), .val (.int p2), .val (.int p3), .val (.int p4), .val (.ref b1), .val (.int sl), .val (.int wn0), .val (.int fi), .val (.int ti), .unset, .unset, .unset] [(.ref b1)]))
    refine own_st (fun t k => XS.iload X11.here hx rfl (hb hby at_83) rfl k) ?_
    show own_Go p e below K (T11.setTop (mkF m 85 #[.val (.int p1), .val (.int p2), .val (.int p3), .val (.int p4), .val (.ref b1), .val (.int sl), .val (.int wn0), .val (.int fi), .val (.int ti), .unset, .unset, .unset] [(.int wn0), (.ref b1)]))
    refine own_st (fun t k => XS.iload X11.here hx rfl (hb hby at_85) rfl k) ?_
    show own_Go p e below K (T11.setTop (mkF m 87 #[.val (.int p1), .val (.int p2), .val (.int p3), .val (.int p4), .val (.ref b1), .val (.int sl), .val (.int wn0), .val (.int fi), .val (.int ti), .unset, .unset, .unset] [(.int fi), (.int wn0), (.ref b1)]))
    refine own_st (fun t k => XS.iload X11.here hx rfl (hb hby at_87) rfl k) ?_
    show own_Go p e below K (T11.setTop (mkF m 89 #[.val (.int p1), .val (.int p2), .val (.int p3), .val (.int p4), .val (.ref b1), .val (.int sl), .val (.int wn0), .val (.int fi), .val (.int ti), .unset, .unset, .unset] [(.int ti), (.int fi), (.int wn0), (.ref b1)]))
    obtain ⟨_, _, ⟨T12, L12, k12, n12⟩, -, X12, ⟨Lc12, hQ12, l12, y12, z12⟩, st12⟩ := Jvm.LawKit.callS X11 hx (y := (⟨"org/ranktide/formats/LineReader", "indexOf", "([BBII)I"⟩ : MethodName)) hown (mvT hZ (hw _ (List.mem_of_getElem? (i := 2) rfl))) (mvT hZ (hw _ (List.mem_of_getElem? (i := 3) rfl))) (mvT hZ (hw _ (List.mem_of_getElem? (i := 4) rfl))) (mvT hZ (hw _ (List.mem_of_getElem? (i := 5) rfl))) (by decide) (backOf (W := 0) (rm1 l Z a0 hw [] b1 wn0 fi ti (k1) ((4 : Int32)) (bs) h9 n0 Z9 V10 Bf.1 Bt.2) hZ (hw _ (List.mem_of_getElem? (i := 5) rfl)) (hw _ (List.mem_of_getElem? (i := 4) rfl)) (by decide) (by decide)) (g := (mkF m 89 #[.val (.int p1), .val (.int p2), .val (.int p3), .val (.int p4), .val (.ref b1), .val (.int sl), .val (.int wn0), .val (.int fi), .val (.int ti), .unset, .unset, .unset] [(.int ti), (.int fi), (.int wn0), (.ref b1)])) rfl (by rw [hml]; rfl) (argsL := [(.ref b1), (.int wn0), (.int fi), (.int ti)]) (rest := []) (lenOf pd_0_0 rfl) rfl (by show 2 * 0 + _ ≤ _; exact Nat.le_of_eq rfl) (hb hby at_89) (fun _ _ => ⟨rfl, e11, (by decide : 1 + 0 ≤ _), (by decide : 4 + 0 ≤ _)⟩)
    dsimp only [Pt.U, Pt.locs, Pt.cells, Pt.slots] at X12 l12 y12 z12 st12 hQ12
    subst l12 y12 z12
    obtain ⟨r12, rfl, hr12, N12q, e12⟩ := hQ12
    have N12 := Fr.app N11 N12q
    refine own_st st12 ?_
    show own_Go p e below K (T12.setTop (mkF m 92 #[.val (.int p1), .val (.int p2), .val (.int p3), .val (.int p4), .val (.ref b1), .val (.int sl), .val (.int wn0), .val (.int fi), .val (.int ti), .unset, .unset, .unset] [(.int r12)]))
    refine own_st (fun t k => XS.istore X12.here hx rfl (hb hby at_92) rfl (l' := #[.val (.int p1), .val (.int p2), .val (.int p3), .val (.int p4), .val (.ref b1), .val (.int sl), .val (.int wn0), .val (.int fi), .val (.int ti), .val (.int r12), .unset, .unset]) rfl k) ?_
    show own_Go p e below K (T12.setTop (mkF m 94 #[.val (.int p1), .val (.int p2), .val (.int p3), .val (.int p4), .val (.ref b1), .val (.int sl), .val (.int wn0), .val (.int fi), .val (.int ti), .val (.int r12), .unset, .unset] []))
    refine own_st (fun t k => XS.iconst X12.here hx rfl (hb hby at_94) k) ?_
    show own_Go p e below K (T12.setTop (mkF m 95 #[.val (.int p1), .val (.int p2), .val (.int p3), .val (.int p4), .val (.ref b1), .val (.int sl), .val (.int wn0), .val (.int fi), .val (.int ti), .val (.int r12), .unset, .unset] [(.int (-1 : Int32))]))
    refine own_st (fun t k => XS.istore X12.here hx rfl (hb hby at_95) rfl (l' := #[.val (.int p1), .val (.int p2), .val (.int p3), .val (.int p4), .val (.ref b1), .val (.int sl), .val (.int wn0), .val (.int fi), .val (.int ti), .val (.int r12), .val (.int (-1 : Int32)), .unset]) rfl k) ?_
    show own_Go p e below K (T12.setTop (mkF m 97 #[.val (.int p1), .val (.int p2), .val (.int p3), .val (.int p4), .val (.ref b1), .val (.int sl), .val (.int wn0), .val (.int fi), .val (.int ti), .val (.int r12), .val (.int (-1 : Int32)), .unset] []))
    have J115 : ∀ (T' : State) (locs' : List Loc) (X' : Stand p l e room_1 s m #[(.int p1), (.int p2), (.int p3), (.int p4)] below meth c T' locs' 1 4) (e' : T'.heap = h9) (N' : Fr n0 locs') (ea0 : Int32), (own_F (own_A bs wn0 fi ti) 3 4 ea0) → own_Go p e below K (T'.setTop (mkF m 115 #[.val (.int p1), .val (.int p2), .val (.int p3), .val (.int p4), .val (.ref b1), .val (.int sl), .val (.int wn0), .val (.int fi), .val (.int ti), .val (.int r12), .val (.int ea0), .unset] [])) := by
      intro T13 locs13 X13 e13 N13 ea0 hj115
      have J133 : ∀ (T' : State) (locs' : List Loc) (X' : Stand p l e room_1 s m #[(.int p1), (.int p2), (.int p3), (.int p4)] below meth c T' locs' 1 4) (e' : T'.heap = h9) (N' : Fr n0 locs') (eb0 : Int32), (own_F (own_A bs wn0 fi ti) 2 4 eb0) → own_Go p e below K (T'.setTop (mkF m 133 #[.val (.int p1), .val (.int p2), .val (.int p3), .val (.int p4), .val (.ref b1), .val (.int sl), .val (.int wn0), .val (.int fi), .val (.int ti), .val (.int r12), .val (.int eb0), .unset] [])) := by
        intro T14 locs14 X14 e14 N14 eb0 hj133
        have J151 : ∀ (T' : State) (locs' : List Loc) (X' : Stand p l e room_1 s m #[(.int p1), (.int p2), (.int p3), (.int p4)] below meth c T' locs' 1 4) (e' : T'.heap = h9) (N' : Fr n0 locs') (ec0 : Int32), (own_F (own_A bs wn0 fi ti) 1 4 ec0) → own_Go p e below K (T'.setTop (mkF m 151 #[.val (.int p1), .val (.int p2), .val (.int p3), .val (.int p4), .val (.ref b1), .val (.int sl), .val (.int wn0), .val (.int fi), .val (.int ti), .val (.int r12), .val (.int ec0), .unset] [])) := by
          intro T15 locs15 X15 e15 N15 ec0 hj151
          have J169 : ∀ (T' : State) (locs' : List Loc) (X' : Stand p l e room_1 s m #[(.int p1), (.int p2), (.int p3), (.int p4)] below meth c T' locs' 1 4) (e' : T'.heap = h9) (N' : Fr n0 locs') (ed0 : Int32), (own_F (own_A bs wn0 fi ti) 0 4 ed0) → own_Go p e below K (T'.setTop (mkF m 169 #[.val (.int p1), .val (.int p2), .val (.int p3), .val (.int p4), .val (.ref b1), .val (.int sl), .val (.int wn0), .val (.int fi), .val (.int ti), .val (.int r12), .val (.int ed0), .unset] [])) := by
            intro T16 locs16 X16 e16 N16 ed0 hj169
            refine own_st (fun t k => XS.aload X16.here hx rfl (hb hby at_169) rfl rfl k) ?_
            show own_Go p e below K (T16.setTop (mkF m 171 #[.val (.int p1), .val (.int p2), .val (.int p3), .val (.int p4), .val (.ref b1), .val (.int sl), .val (.int wn0), .val (.int fi), .val (.int ti), .val (.int r12), .val (.int ed0), .unset] [(.ref b1)]))
            refine own_st (fun t k => XS.iconst X16.here hx rfl (hb hby at_171) k) ?_
            show own_Go p e below K (T16.setTop (mkF m 172 #[.val (.int p1), .val (.int p2), .val (.int p3), .val (.int p4), .val (.ref b1), .val (.int sl), .val (.int wn0), .val (.int fi), .val (.int ti), .val (.int r12), .val (.int ed0), .unset] [(.int (0 : Int32)), (.ref b1)]))
            obtain ⟨cl17, Ar17, q17, S17, M17, H17, G17⟩ := id V10
            have hin17 : ¬ ((0 : Int32) < 0 ∨ cl17.slots.size ≤ ((0 : Int32)).toNatClampNeg) := inb_of S17 ⟨by decide, by decide⟩
            refine own_st (X16.baloadBytes hx (j := (0 : Int32)) (v := (.int (bs.getD ((0 : Int32)).toNatClampNeg 0))) (own_hat e16 Ar17.1) (State.isArrayOf_alike hZ.alike Ar17.2.1) Ar17.2.2 hin17 (Has.at H17 hin17 (own_atI bs _)) (g := (mkF m 172 #[.val (.int p1), .val (.int p2), .val (.int p3), .val (.int p4), .val (.ref b1), .val (.int sl), .val (.int wn0), .val (.int fi), .val (.int ti), .val (.int r12), .val (.int ed0), .unset] [(.int (0 : Int32)), (.ref b1)])) rfl rfl (hb hby at_172)) ?_
            show own_Go p e below K (T16.setTop (mkF m 173 #[.val (.int p1), .val (.int p2), .val (.int p3), .val (.int p4), .val (.ref b1), .val (.int sl), .val (.int wn0), .val (.int fi), .val (.int ti), .val (.int r12), .val (.int ed0), .unset] [(.int (bs.getD ((0 : Int32)).toNatClampNeg 0))]))
            refine own_st (fun t k => XS.iloadN X16.here hx rfl (hb hby at_173) rfl k) ?_
            show own_Go p e below K (T16.setTop (mkF m 174 #[.val (.int p1), .val (.int p2), .val (.int p3), .val (.int p4), .val (.ref b1), .val (.int sl), .val (.int wn0), .val (.int fi), .val (.int ti), .val (.int r12), .val (.int ed0), .unset] [(.int p1), (.int (bs.getD ((0 : Int32)).toNatClampNeg 0))]))
            refine own_st (fun t k => XS.i2b X16.here hx rfl (hb hby at_174) rfl k) ?_
            show own_Go p e below K (T16.setTop (mkF m 175 #[.val (.int p1), .val (.int p2), .val (.int p3), .val (.int p4), .val (.ref b1), .val (.int sl), .val (.int wn0), .val (.int fi), .val (.int ti), .val (.int r12), .val (.int ed0), .unset] [(.int (p1.toInt8.toInt32)), (.int (bs.getD ((0 : Int32)).toNatClampNeg 0))]))
            refine own_st (fun t k => XS.icmpNo X16.here hx rfl (hb hby at_175) rfl (teq (by rw [hbs]; rfl : (bs.getD ((0 : Int32)).toNatClampNeg 0) = (p1.toInt8.toInt32))).2 k) ?_
            show own_Go p e below K (T16.setTop (mkF m 178 #[.val (.int p1), .val (.int p2), .val (.int p3), .val (.int p4), .val (.ref b1), .val (.int sl), .val (.int wn0), .val (.int fi), .val (.int ti), .val (.int r12), .val (.int ed0), .unset] []))
            refine own_st (fun t k => XS.aload X16.here hx rfl (hb hby at_178) rfl rfl k) ?_
            show own_Go p e below K (T16.setTop (mkF m 180 #[.val (.int p1), .val (.int p2), .val (.int p3), .val (.int p4), .val (.ref b1), .val (.int sl), .val (.int wn0), .val (.int fi), .val (.int ti), .val (.int r12), .val (.int ed0), .unset] [(.ref b1)]))
            refine own_st (fun t k => XS.iconst X16.here hx rfl (hb hby at_180) k) ?_
            show own_Go p e below K (T16.setTop (mkF m 181 #[.val (.int p1), .val (.int p2), .val (.int p3), .val (.int p4), .val (.ref b1), .val (.int sl), .val (.int wn0), .val (.int fi), .val (.int ti), .val (.int r12), .val (.int ed0), .unset] [(.int (1 : Int32)), (.ref b1)]))
            obtain ⟨cl18, Ar18, q18, S18, M18, H18, G18⟩ := id V10
            have hin18 : ¬ ((1 : Int32) < 0 ∨ cl18.slots.size ≤ ((1 : Int32)).toNatClampNeg) := inb_of S18 ⟨by decide, by decide⟩
            refine own_st (X16.baloadBytes hx (j := (1 : Int32)) (v := (.int (bs.getD ((1 : Int32)).toNatClampNeg 0))) (own_hat e16 Ar18.1) (State.isArrayOf_alike hZ.alike Ar18.2.1) Ar18.2.2 hin18 (Has.at H18 hin18 (own_atI bs _)) (g := (mkF m 181 #[.val (.int p1), .val (.int p2), .val (.int p3), .val (.int p4), .val (.ref b1), .val (.int sl), .val (.int wn0), .val (.int fi), .val (.int ti), .val (.int r12), .val (.int ed0), .unset] [(.int (1 : Int32)), (.ref b1)])) rfl rfl (hb hby at_181)) ?_
            show own_Go p e below K (T16.setTop (mkF m 182 #[.val (.int p1), .val (.int p2), .val (.int p3), .val (.int p4), .val (.ref b1), .val (.int sl), .val (.int wn0), .val (.int fi), .val (.int ti), .val (.int r12), .val (.int ed0), .unset] [(.int (bs.getD ((1 : Int32)).toNatClampNeg 0))]))
            refine own_st (fun t k => XS.iloadN X16.here hx rfl (hb hby at_182) rfl k) ?_
            show own_Go p e below K (T16.setTop (mkF m 183 #[.val (.int p1), .val (.int p2), .val (.int p3), .val (.int p4), .val (.ref b1), .val (.int sl), .val (.int wn0), .val (.int fi), .val (.int ti), .val (.int r12), .val (.int ed0), .unset] [(.int p1), (.int (bs.getD ((1 : Int32)).toNatClampNeg 0))]))
            refine own_st (fun t k => XS.bipush X16.here hx rfl (hb hby at_183) k) ?_
            show own_Go p e below K (T16.setTop (mkF m 185 #[.val (.int p1), .val (.int p2), .val (.int p3), .val (.int p4), .val (.ref b1), .val (.int sl), .val (.int wn0), .val (.int fi), .val (.int ti), .val (.int r12), .val (.int ed0), .unset] [(.int (8 : Int32)), (.int p1), (.int (bs.getD ((1 : Int32)).toNatClampNeg 0))]))
            refine own_st (fun t k => XS.ishr X16.here hx rfl (hb hby at_185) rfl k) ?_
            show own_Go p e below K (T16.setTop (mkF m 186 #[.val (.int p1), .val (.int p2), .val (.int p3), .val (.int p4), .val (.ref b1), .val (.int sl), .val (.int wn0), .val (.int fi), .val (.int ti), .val (.int r12), .val (.int ed0), .unset] [(.int (p1 >>> ((8 : Int32) &&& 31))), (.int (bs.getD ((1 : Int32)).toNatClampNeg 0))]))
            refine own_st (fun t k => XS.i2b X16.here hx rfl (hb hby at_186) rfl k) ?_
            show own_Go p e below K (T16.setTop (mkF m 187 #[.val (.int p1), .val (.int p2), .val (.int p3), .val (.int p4), .val (.ref b1), .val (.int sl), .val (.int wn0), .val (.int fi), .val (.int ti), .val (.int r12), .val (.int ed0), .unset] [(.int ((p1 >>> ((8 : Int32) &&& 31)).toInt8.toInt32)), (.int (bs.getD ((1 : Int32)).toNatClampNeg 0))]))
            refine own_st (fun t k => XS.icmpNo X16.here hx rfl (hb hby at_187) rfl (teq (by rw [hbs]; rfl : (bs.getD ((1 : Int32)).toNatClampNeg 0) = ((p1 >>> ((8 : Int32) &&& 31)).toInt8.toInt32))).2 k) ?_
            show own_Go p e below K (T16.setTop (mkF m 190 #[.val (.int p1), .val (.int p2), .val (.int p3), .val (.int p4), .val (.ref b1), .val (.int sl), .val (.int wn0), .val (.int fi), .val (.int ti), .val (.int r12), .val (.int ed0), .unset] []))
            refine own_st (fun t k => XS.aload X16.here hx rfl (hb hby at_190) rfl rfl k) ?_
            show own_Go p e below K (T16.setTop (mkF m 192 #[.val (.int p1), .val (.int p2), .val (.int p3), .val (.int p4), .val (.ref b1), .val (.int sl), .val (.int wn0), .val (.int fi), .val (.int ti), .val (.int r12), .val (.int ed0), .unset] [(.ref b1)]))
            refine own_st (fun t k => XS.iconst X16.here hx rfl (hb hby at_192) k) ?_
            show own_Go p e below K (T16.setTop (mkF m 193 #[.val (.int p1), .val (.int p2), .val (.int p3), .val (.int p4), .val (.ref b1), .val (.int sl), .val (.int wn0), .val (.int fi), .val (.int ti), .val (.int r12), .val (.int ed0), .unset] [(.int (2 : Int32)), (.ref b1)]))
            obtain ⟨cl19, Ar19, q19, S19, M19, H19, G19⟩ := id V10
            have hin19 : ¬ ((2 : Int32) < 0 ∨ cl19.slots.size ≤ ((2 : Int32)).toNatClampNeg) := inb_of S19 ⟨by decide, by decide⟩
            refine own_st (X16.baloadBytes hx (j := (2 : Int32)) (v := (.int (bs.getD ((2 : Int32)).toNatClampNeg 0))) (own_hat e16 Ar19.1) (State.isArrayOf_alike hZ.alike Ar19.2.1) Ar19.2.2 hin19 (Has.at H19 hin19 (own_atI bs _)) (g := (mkF m 193 #[.val (.int p1), .val (.int p2), .val (.int p3), .val (.int p4), .val (.ref b1), .val (.int sl), .val (.int wn0), .val (.int fi), .val (.int ti), .val (.int r12), .val (.int ed0), .unset] [(.int (2 : Int32)), (.ref b1)])) rfl rfl (hb hby at_193)) ?_
            show own_Go p e below K (T16.setTop (mkF m 194 #[.val (.int p1), .val (.int p2), .val (.int p3), .val (.int p4), .val (.ref b1), .val (.int sl), .val (.int wn0), .val (.int fi), .val (.int ti), .val (.int r12), .val (.int ed0), .unset] [(.int (bs.getD ((2 : Int32)).toNatClampNeg 0))]))
            refine own_st (fun t k => XS.iloadN X16.here hx rfl (hb hby at_194) rfl k) ?_
            show own_Go p e below K (T16.setTop (mkF m 195 #[.val (.int p1), .val (.int p2), .val (.int p3), .val (.int p4), .val (.ref b1), .val (.int sl), .val (.int wn0), .val (.int fi), .val (.int ti), .val (.int r12), .val (.int ed0), .unset] [(.int p1), (.int (bs.getD ((2 : Int32)).toNatClampNeg 0))]))
            refine own_st (fun t k => XS.bipush X16.here hx rfl (hb hby at_195) k) ?_
            show own_Go p e below K (T16.setTop (mkF m 197 #[.val (.int p1), .val (.int p2), .val (.int p3), .val (.int p4), .val (.ref b1), .val (.int sl), .val (.int wn0), .val (.int fi), .val (.int ti), .val (.int r12), .val (.int ed0), .unset] [(.int (16 : Int32)), (.int p1), (.int (bs.getD ((2 : Int32)).toNatClampNeg 0))]))
            refine own_st (fun t k => XS.ishr X16.here hx rfl (hb hby at_197) rfl k) ?_
            show own_Go p e below K (T16.setTop (mkF m 198 #[.val (.int p1), .val (.int p2), .val (.int p3), .val (.int p4), .val (.ref b1), .val (.int sl), .val (.int wn0), .val (.int fi), .val (.int ti), .val (.int r12), .val (.int ed0), .unset] [(.int (p1 >>> ((16 : Int32) &&& 31))), (.int (bs.getD ((2 : Int32)).toNatClampNeg 0))]))
            refine own_st (fun t k => XS.i2b X16.here hx rfl (hb hby at_198) rfl k) ?_
            show own_Go p e below K (T16.setTop (mkF m 199 #[.val (.int p1), .val (.int p2), .val (.int p3), .val (.int p4), .val (.ref b1), .val (.int sl), .val (.int wn0), .val (.int fi), .val (.int ti), .val (.int r12), .val (.int ed0), .unset] [(.int ((p1 >>> ((16 : Int32) &&& 31)).toInt8.toInt32)), (.int (bs.getD ((2 : Int32)).toNatClampNeg 0))]))
            refine own_st (fun t k => XS.icmpNo X16.here hx rfl (hb hby at_199) rfl (teq (by rw [hbs]; rfl : (bs.getD ((2 : Int32)).toNatClampNeg 0) = ((p1 >>> ((16 : Int32) &&& 31)).toInt8.toInt32))).2 k) ?_
            show own_Go p e below K (T16.setTop (mkF m 202 #[.val (.int p1), .val (.int p2), .val (.int p3), .val (.int p4), .val (.ref b1), .val (.int sl), .val (.int wn0), .val (.int fi), .val (.int ti), .val (.int r12), .val (.int ed0), .unset] []))
            refine own_st (fun t k => XS.aload X16.here hx rfl (hb hby at_202) rfl rfl k) ?_
            show own_Go p e below K (T16.setTop (mkF m 204 #[.val (.int p1), .val (.int p2), .val (.int p3), .val (.int p4), .val (.ref b1), .val (.int sl), .val (.int wn0), .val (.int fi), .val (.int ti), .val (.int r12), .val (.int ed0), .unset] [(.ref b1)]))
            refine own_st (fun t k => XS.iconst X16.here hx rfl (hb hby at_204) k) ?_
            show own_Go p e below K (T16.setTop (mkF m 205 #[.val (.int p1), .val (.int p2), .val (.int p3), .val (.int p4), .val (.ref b1), .val (.int sl), .val (.int wn0), .val (.int fi), .val (.int ti), .val (.int r12), .val (.int ed0), .unset] [(.int (3 : Int32)), (.ref b1)]))
            obtain ⟨cl20, Ar20, q20, S20, M20, H20, G20⟩ := id V10
            have hin20 : ¬ ((3 : Int32) < 0 ∨ cl20.slots.size ≤ ((3 : Int32)).toNatClampNeg) := inb_of S20 ⟨by decide, by decide⟩
            refine own_st (X16.baloadBytes hx (j := (3 : Int32)) (v := (.int (bs.getD ((3 : Int32)).toNatClampNeg 0))) (own_hat e16 Ar20.1) (State.isArrayOf_alike hZ.alike Ar20.2.1) Ar20.2.2 hin20 (Has.at H20 hin20 (own_atI bs _)) (g := (mkF m 205 #[.val (.int p1), .val (.int p2), .val (.int p3), .val (.int p4), .val (.ref b1), .val (.int sl), .val (.int wn0), .val (.int fi), .val (.int ti), .val (.int r12), .val (.int ed0), .unset] [(.int (3 : Int32)), (.ref b1)])) rfl rfl (hb hby at_205)) ?_
            show own_Go p e below K (T16.setTop (mkF m 206 #[.val (.int p1), .val (.int p2), .val (.int p3), .val (.int p4), .val (.ref b1), .val (.int sl), .val (.int wn0), .val (.int fi), .val (.int ti), .val (.int r12), .val (.int ed0), .unset] [(.int (bs.getD ((3 : Int32)).toNatClampNeg 0))]))
            refine own_st (fun t k => XS.iloadN X16.here hx rfl (hb hby at_206) rfl k) ?_
            show own_Go p e below K (T16.setTop (mkF m 207 #[.val (.int p1), .val (.int p2), .val (.int p3), .val (.int p4), .val (.ref b1), .val (.int sl), .val (.int wn0), .val (.int fi), .val (.int ti), .val (.int r12), .val (.int ed0), .unset] [(.int p1), (.int (bs.getD ((3 : Int32)).toNatClampNeg 0))]))
            refine own_st (fun t k => XS.bipush X16.here hx rfl (hb hby at_207) k) ?_
            show own_Go p e below K (T16.setTop (mkF m 209 #[.val (.int p1), .val (.int p2), .val (.int p3), .val (.int p4), .val (.ref b1), .val (.int sl), .val (.int wn0), .val (.int fi), .val (.int ti), .val (.int r12), .val (.int ed0), .unset] [(.int (24 : Int32)), (.int p1), (.int (bs.getD ((3 : Int32)).toNatClampNeg 0))]))
            refine own_st (fun t k => XS.iushr X16.here hx rfl (hb hby at_209) rfl k) ?_
            show own_Go p e below K (T16.setTop (mkF m 210 #[.val (.int p1), .val (.int p2), .val (.int p3), .val (.int p4), .val (.ref b1), .val (.int sl), .val (.int wn0), .val (.int fi), .val (.int ti), .val (.int r12), .val (.int ed0), .unset] [(.int ((p1.toUInt32 >>> ((24 : Int32) &&& 31).toUInt32).toInt32)), (.int (bs.getD ((3 : Int32)).toNatClampNeg 0))]))
            refine own_st (fun t k => XS.i2b X16.here hx rfl (hb hby at_210) rfl k) ?_
            show own_Go p e below K (T16.setTop (mkF m 211 #[.val (.int p1), .val (.int p2), .val (.int p3), .val (.int p4), .val (.ref b1), .val (.int sl), .val (.int wn0), .val (.int fi), .val (.int ti), .val (.int r12), .val (.int ed0), .unset] [(.int (((p1.toUInt32 >>> ((24 : Int32) &&& 31).toUInt32).toInt32).toInt8.toInt32)), (.int (bs.getD ((3 : Int32)).toNatClampNeg 0))]))
            refine own_st (fun t k => XS.icmpNo X16.here hx rfl (hb hby at_211) rfl (teq (by rw [hbs]; rfl : (bs.getD ((3 : Int32)).toNatClampNeg 0) = (((p1.toUInt32 >>> ((24 : Int32) &&& 31).toUInt32).toInt32).toInt8.toInt32))).2 k) ?_
            show own_Go p e below K (T16.setTop (mkF m 214 #[.val (.int p1), .val (.int p2), .val (.int p3), .val (.int p4), .val (.ref b1), .val (.int sl), .val (.int wn0), .val (.int fi), .val (.int ti), .val (.int r12), .val (.int ed0), .unset] []))
            refine own_st (fun t k => XS.iconst X16.here hx rfl (hb hby at_214) k) ?_
            show own_Go p e below K (T16.setTop (mkF m 215 #[.val (.int p1), .val (.int p2), .val (.int p3), .val (.int p4), .val (.ref b1), .val (.int sl), .val (.int wn0), .val (.int fi), .val (.int ti), .val (.int r12), .val (.int ed0), .unset] [(.int (1 : Int32))]))
            refine own_st (fun t k => XS.goto X16.here hx rfl (pc0 := 215) (pc' := 219) rfl (hb hby at_215) (by decide) (by decide) k) ?_
            show own_Go p e below K (T16.setTop (mkF m 219 #[.val (.int p1), .val (.int p2), .val (.int p3), .val (.int p4), .val (.ref b1), .val (.int sl), .val (.int wn0), .val (.int fi), .val (.int ti), .val (.int r12), .val (.int ed0), .unset] [(.int (1 : Int32))]))
            refine own_st (fun t k => XS.istore X16.here hx rfl (hb hby at_219) rfl (l' := #[.val (.int p1), .val (.int p2), .val (.int p3), .val (.int p4), .val (.ref b1), .val (.int sl), .val (.int wn0), .val (.int fi), .val (.int ti), .val (.int r12), .val (.int ed0), .val (.int (1 : Int32))]) rfl k) ?_
            show own_Go p e below K (T16.setTop (mkF m 221 #[.val (.int p1), .val (.int p2), .val (.int p3), .val (.int p4), .val (.ref b1), .val (.int sl), .val (.int wn0), .val (.int fi), .val (.int ti), .val (.int r12), .val (.int ed0), .val (.int (1 : Int32))] []))
            refine own_st (fun t k => XS.iload X16.here hx rfl (hb hby at_221) rfl k) ?_
            show own_Go p e below K (T16.setTop (mkF m 223 #[.val (.int p1), .val (.int p2), .val (.int p3), .val (.int p4), .val (.ref b1), .val (.int sl), .val (.int wn0), .val (.int fi), .val (.int ti), .val (.int r12), .val (.int ed0), .val (.int (1 : Int32))] [(.int r12)]))
            refine own_st (fun t k => XS.iload X16.here hx rfl (hb hby at_223) rfl k) ?_
            show own_Go p e below K (T16.setTop (mkF m 225 #[.val (.int p1), .val (.int p2), .val (.int p3), .val (.int p4), .val (.ref b1), .val (.int sl), .val (.int wn0), .val (.int fi), .val (.int ti), .val (.int r12), .val (.int ed0), .val (.int (1 : Int32))] [(.int ed0), (.int r12)]))
            refine own_st (fun t k => XS.icmpNo X16.here hx rfl (hb hby at_225) rfl (teq (own_F.uniq hr12 hj169 : r12 = ed0)).2 k) ?_
            show own_Go p e below K (T16.setTop (mkF m 228 #[.val (.int p1), .val (.int p2), .val (.int p3), .val (.int p4), .val (.ref b1), .val (.int sl), .val (.int wn0), .val (.int fi), .val (.int ti), .val (.int r12), .val (.int ed0), .val (.int (1 : Int32))] []))
            refine own_st (fun t k => XS.iload X16.here hx rfl (hb hby at_228) rfl k) ?_
            show own_Go p e below K (T16.setTop (mkF m 230 #[.val (.int p1), .val (.int p2), .val (.int p3), .val (.int p4), .val (.ref b1), .val (.int sl), .val (.int wn0), .val (.int fi), .val (.int ti), .val (.int r12), .val (.int ed0), .val (.int (1 : Int32))] [(.int (1 : Int32))]))
            refine own_st (fun t k => XS.ifNo X16.here hx rfl (hb hby at_230) rfl ((if0 _ _).trans (feq (by decide : ¬ ((1 : Int32) = (0 : Int32)))).1) k) ?_
            show own_Go p e below K (T16.setTop (mkF m 233 #[.val (.int p1), .val (.int p2), .val (.int p3), .val (.int p4), .val (.ref b1), .val (.int sl), .val (.int wn0), .val (.int fi), .val (.int ti), .val (.int r12), .val (.int ed0), .val (.int (1 : Int32))] []))
            refine own_st (fun t k => XS.iconst X16.here hx rfl (hb hby at_233) k) ?_
            show own_Go p e below K (T16.setTop (mkF m 234 #[.val (.int p1), .val (.int p2), .val (.int p3), .val (.int p4), .val (.ref b1), .val (.int sl), .val (.int wn0), .val (.int fi), .val (.int ti), .val (.int r12), .val (.int ed0), .val (.int (1 : Int32))] [(.int (1 : Int32))]))
            refine own_st (fun t k => XS.goto X16.here hx rfl (pc0 := 234) (pc' := 238) rfl (hb hby at_234) (by decide) (by decide) k) ?_
            show own_Go p e below K (T16.setTop (mkF m 238 #[.val (.int p1), .val (.int p2), .val (.int p3), .val (.int p4), .val (.ref b1), .val (.int sl), .val (.int wn0), .val (.int fi), .val (.int ti), .val (.int r12), .val (.int ed0), .val (.int (1 : Int32))] [(.int (1 : Int32))]))
            obtain ⟨fs, hr, hrun, hended, hW, hsame⟩ := X16.leave (v := some (.int (nar .boolean (1 : Int32)))) (fun h => by rw [Bd.returns] at h; cases h)
            refine ⟨_, retN X16 hx (t := .boolean) Bd.returns (by simp) (hb hby at_238) hr, fin _ _ _ hrun hended ?_ ⟨⟨_, rfl⟩, hW, hsame.mono (by decide) (by decide)⟩⟩
            show Q0 Z p1 p2 p3 p4 h0 n0 _ T16.heap _
            rw [e16]
            exact ⟨rfl, N16⟩
          refine own_st (fun t k => XS.aload X15.here hx rfl (hb hby at_151) rfl rfl k) ?_
          show own_Go p e below K (T15.setTop (mkF m 153 #[.val (.int p1), .val (.int p2), .val (.int p3), .val (.int p4), .val (.ref b1), .val (.int sl), .val (.int wn0), .val (.int fi), .val (.int ti), .val (.int r12), .val (.int ec0), .unset] [(.ref b1)]))
          refine own_st (fun t k => XS.iload X15.here hx rfl (hb hby at_153) rfl k) ?_
          show own_Go p e below K (T15.setTop (mkF m 155 #[.val (.int p1), .val (.int p2), .val (.int p3), .val (.int p4), .val (.ref b1), .val (.int sl), .val (.int wn0), .val (.int fi), .val (.int ti), .val (.int r12), .val (.int ec0), .unset] [(.int wn0), (.ref b1)]))
          refine own_st (fun t k => XS.iconst X15.here hx rfl (hb hby at_155) k) ?_
          show own_Go p e below K (T15.setTop (mkF m 156 #[.val (.int p1), .val (.int p2), .val (.int p3), .val (.int p4), .val (.ref b1), .val (.int sl), .val (.int wn0), .val (.int fi), .val (.int ti), .val (.int r12), .val (.int ec0), .unset] [(.int (0 : Int32)), (.int wn0), (.ref b1)]))
          refine own_st (fun t k => XS.iload X15.here hx rfl (hb hby at_156) rfl k) ?_
          show own_Go p e below K (T15.setTop (mkF m 158 #[.val (.int p1), .val (.int p2), .val (.int p3), .val (.int p4), .val (.ref b1), .val (.int sl), .val (.int wn0), .val (.int fi), .val (.int ti), .val (.int r12), .val (.int ec0), .unset] [(.int fi), (.int (0 : Int32)), (.int wn0), (.ref b1)]))
          refine own_st (fun t k => XS.iload X15.here hx rfl (hb hby at_158) rfl k) ?_
          show own_Go p e below K (T15.setTop (mkF m 160 #[.val (.int p1), .val (.int p2), .val (.int p3), .val (.int p4), .val (.ref b1), .val (.int sl), .val (.int wn0), .val (.int fi), .val (.int ti), .val (.int r12), .val (.int ec0), .unset] [(.int ti), (.int fi), (.int (0 : Int32)), (.int wn0), (.ref b1)]))
          obtain ⟨_, _, ⟨T21, L21, k21, n21⟩, -, X21, ⟨Lc21, hQ21, l21, y21, z21⟩, st21⟩ := Jvm.LawKit.callS X15 hx (y := (⟨"org/ranktide/formats/LineReaderIndexOfPinLaw", "at", "([BBIII)Z"⟩ : MethodName)) hown (mvT hZ (hw _ (List.mem_of_getElem? (i := 6) rfl))) (mvT hZ (hw _ (List.mem_of_getElem? (i := 7) rfl))) (mvT hZ (hw _ (List.mem_of_getElem? (i := 8) rfl))) (mvT hZ (hw _ (List.mem_of_getElem? (i := 9) rfl))) (by decide) (backOf (W := 0) (rm2 l Z a0 hw [] b1 wn0 (0 : Int32) fi ti (k1) ((4 : Int32)) (bs) h9 n0 Z9 V10 (by decide) (by decide)) hZ (hw _ (List.mem_of_getElem? (i := 9) rfl)) (hw _ (List.mem_of_getElem? (i := 8) rfl)) (by decide) (by decide)) (g := (mkF m 160 #[.val (.int p1), .val (.int p2), .val (.int p3), .val (.int p4), .val (.ref b1), .val (.int sl), .val (.int wn0), .val (.int fi), .val (.int ti), .val (.int r12), .val (.int ec0), .unset] [(.int ti), (.int fi), (.int (0 : Int32)), (.int wn0), (.ref b1)])) rfl (by rw [hml]; rfl) (argsL := [(.ref b1), (.int wn0), (.int (0 : Int32)), (.int fi), (.int ti)]) (rest := []) (lenOf pd_0_1 rfl) rfl (by show 2 * 0 + _ ≤ _; exact Nat.le_of_eq rfl) (hb hby at_160) (fun _ _ => ⟨rfl, e15, (by decide : 1 + 0 ≤ _), (by decide : 4 + 0 ≤ _)⟩)
          dsimp only [Pt.U, Pt.locs, Pt.cells, Pt.slots] at X21 l21 y21 z21 st21 hQ21
          subst l21 y21 z21
          obtain ⟨r21, rfl, hr21, N21q, e21⟩ := hQ21
          have N21 := Fr.app N15 N21q
          refine own_st st21 ?_
          show own_Go p e below K (T21.setTop (mkF m 163 #[.val (.int p1), .val (.int p2), .val (.int p3), .val (.int p4), .val (.ref b1), .val (.int sl), .val (.int wn0), .val (.int fi), .val (.int ti), .val (.int r12), .val (.int ec0), .unset] [(.int r21)]))
          by_cases hc163 : r21 = (0 : Int32)
          · refine own_st (fun t k => XS.ifYes X21.here hx rfl (pc0 := 163) (pc' := 169) rfl (hb hby at_163) rfl ((if0 _ _).trans (teq hc163).1) (by decide) (by decide) k) ?_
            show own_Go p e below K (T21.setTop (mkF m 169 #[.val (.int p1), .val (.int p2), .val (.int p3), .val (.int p4), .val (.ref b1), .val (.int sl), .val (.int wn0), .val (.int fi), .val (.int ti), .val (.int r12), .val (.int ec0), .unset] []))
            exact J169 T21 _ X21 e21 N21 (ec0) (own_F.keep hj151 (own_B.fails hr21 hc163))
          refine own_st (fun t k => XS.ifNo X21.here hx rfl (hb hby at_163) rfl ((if0 _ _).trans (feq hc163).1) k) ?_
          show own_Go p e below K (T21.setTop (mkF m 166 #[.val (.int p1), .val (.int p2), .val (.int p3), .val (.int p4), .val (.ref b1), .val (.int sl), .val (.int wn0), .val (.int fi), .val (.int ti), .val (.int r12), .val (.int ec0), .unset] []))
          refine own_st (fun t k => XS.iconst X21.here hx rfl (hb hby at_166) k) ?_
          show own_Go p e below K (T21.setTop (mkF m 167 #[.val (.int p1), .val (.int p2), .val (.int p3), .val (.int p4), .val (.ref b1), .val (.int sl), .val (.int wn0), .val (.int fi), .val (.int ti), .val (.int r12), .val (.int ec0), .unset] [(.int (0 : Int32))]))
          refine own_st (fun t k => XS.istore X21.here hx rfl (hb hby at_167) rfl (l' := #[.val (.int p1), .val (.int p2), .val (.int p3), .val (.int p4), .val (.ref b1), .val (.int sl), .val (.int wn0), .val (.int fi), .val (.int ti), .val (.int r12), .val (.int (0 : Int32)), .unset]) rfl k) ?_
          show own_Go p e below K (T21.setTop (mkF m 169 #[.val (.int p1), .val (.int p2), .val (.int p3), .val (.int p4), .val (.ref b1), .val (.int sl), .val (.int wn0), .val (.int fi), .val (.int ti), .val (.int r12), .val (.int (0 : Int32)), .unset] []))
          exact J169 T21 _ X21 e21 N21 ((0 : Int32)) (own_F.hit (own_B.holds hr21 hc163) (by decide) (by decide))
        refine own_st (fun t k => XS.aload X14.here hx rfl (hb hby at_133) rfl rfl k) ?_
        show own_Go p e below K (T14.setTop (mkF m 135 #[.val (.int p1), .val (.int p2), .val (.int p3), .val (.int p4), .val (.ref b1), .val (.int sl), .val (.int wn0), .val (.int fi), .val (.int ti), .val (.int r12), .val (.int eb0), .unset] [(.ref b1)]))
        refine own_st (fun t k => XS.iload X14.here hx rfl (hb hby at_135) rfl k) ?_
        show own_Go p e below K (T14.setTop (mkF m 137 #[.val (.int p1), .val (.int p2), .val (.int p3), .val (.int p4), .val (.ref b1), .val (.int sl), .val (.int wn0), .val (.int fi), .val (.int ti), .val (.int r12), .val (.int eb0), .unset] [(.int wn0), (.ref b1)]))
        refine own_st (fun t k => XS.iconst X14.here hx rfl (hb hby at_137) k) ?_
        show own_Go p e below K (T14.setTop (mkF m 138 #[.val (.int p1), .val (.int p2), .val (.int p3), .val (.int p4), .val (.ref b1), .val (.int sl), .val (.int wn0), .val (.int fi), .val (.int ti), .val (.int r12), .val (.int eb0), .unset] [(.int (1 : Int32)), (.int wn0), (.ref b1)]))
        refine own_st (fun t k => XS.iload X14.here hx rfl (hb hby at_138) rfl k) ?_
        show own_Go p e below K (T14.setTop (mkF m 140 #[.val (.int p1), .val (.int p2), .val (.int p3), .val (.int p4), .val (.ref b1), .val (.int sl), .val (.int wn0), .val (.int fi), .val (.int ti), .val (.int r12), .val (.int eb0), .unset] [(.int fi), (.int (1 : Int32)), (.int wn0), (.ref b1)]))
        refine own_st (fun t k => XS.iload X14.here hx rfl (hb hby at_140) rfl k) ?_
        show own_Go p e below K (T14.setTop (mkF m 142 #[.val (.int p1), .val (.int p2), .val (.int p3), .val (.int p4), .val (.ref b1), .val (.int sl), .val (.int wn0), .val (.int fi), .val (.int ti), .val (.int r12), .val (.int eb0), .unset] [(.int ti), (.int fi), (.int (1 : Int32)), (.int wn0), (.ref b1)]))
        obtain ⟨_, _, ⟨T22, L22, k22, n22⟩, -, X22, ⟨Lc22, hQ22, l22, y22, z22⟩, st22⟩ := Jvm.LawKit.callS X14 hx (y := (⟨"org/ranktide/formats/LineReaderIndexOfPinLaw", "at", "([BBIII)Z"⟩ : MethodName)) hown (mvT hZ (hw _ (List.mem_of_getElem? (i := 6) rfl))) (mvT hZ (hw _ (List.mem_of_getElem? (i := 7) rfl))) (mvT hZ (hw _ (List.mem_of_getElem? (i := 8) rfl))) (mvT hZ (hw _ (List.mem_of_getElem? (i := 9) rfl))) (by decide) (backOf (W := 0) (rm2 l Z a0 hw [] b1 wn0 (1 : Int32) fi ti (k1) ((4 : Int32)) (bs) h9 n0 Z9 V10 (by decide) (by decide)) hZ (hw _ (List.mem_of_getElem? (i := 9) rfl)) (hw _ (List.mem_of_getElem? (i := 8) rfl)) (by decide) (by decide)) (g := (mkF m 142 #[.val (.int p1), .val (.int p2), .val (.int p3), .val (.int p4), .val (.ref b1), .val (.int sl), .val (.int wn0), .val (.int fi), .val (.int ti), .val (.int r12), .val (.int eb0), .unset] [(.int ti), (.int fi), (.int (1 : Int32)), (.int wn0), (.ref b1)])) rfl (by rw [hml]; rfl) (argsL := [(.ref b1), (.int wn0), (.int (1 : Int32)), (.int fi), (.int ti)]) (rest := []) (lenOf pd_0_1 rfl) rfl (by show 2 * 0 + _ ≤ _; exact Nat.le_of_eq rfl) (hb hby at_142) (fun _ _ => ⟨rfl, e14, (by decide : 1 + 0 ≤ _), (by decide : 4 + 0 ≤ _)⟩)
        dsimp only [Pt.U, Pt.locs, Pt.cells, Pt.slots] at X22 l22 y22 z22 st22 hQ22
        subst l22 y22 z22
        obtain ⟨r22, rfl, hr22, N22q, e22⟩ := hQ22
        have N22 := Fr.app N14 N22q
        refine own_st st22 ?_
        show own_Go p e below K (T22.setTop (mkF m 145 #[.val (.int p1), .val (.int p2), .val (.int p3), .val (.int p4), .val (.ref b1), .val (.int sl), .val (.int wn0), .val (.int fi), .val (.int ti), .val (.int r12), .val (.int eb0), .unset] [(.int r22)]))
        by_cases hc145 : r22 = (0 : Int32)
        · refine own_st (fun t k => XS.ifYes X22.here hx rfl (pc0 := 145) (pc' := 151) rfl (hb hby at_145) rfl ((if0 _ _).trans (teq hc145).1) (by decide) (by decide) k) ?_
          show own_Go p e below K (T22.setTop (mkF m 151 #[.val (.int p1), .val (.int p2), .val (.int p3), .val (.int p4), .val (.ref b1), .val (.int sl), .val (.int wn0), .val (.int fi), .val (.int ti), .val (.int r12), .val (.int eb0), .unset] []))
          exact J151 T22 _ X22 e22 N22 (eb0) (own_F.keep hj133 (own_B.fails hr22 hc145))
        refine own_st (fun t k => XS.ifNo X22.here hx rfl (hb hby at_145) rfl ((if0 _ _).trans (feq hc145).1) k) ?_
        show own_Go p e below K (T22.setTop (mkF m 148 #[.val (.int p1), .val (.int p2), .val (.int p3), .val (.int p4), .val (.ref b1), .val (.int sl), .val (.int wn0), .val (.int fi), .val (.int ti), .val (.int r12), .val (.int eb0), .unset] []))
        refine own_st (fun t k => XS.iconst X22.here hx rfl (hb hby at_148) k) ?_
        show own_Go p e below K (T22.setTop (mkF m 149 #[.val (.int p1), .val (.int p2), .val (.int p3), .val (.int p4), .val (.ref b1), .val (.int sl), .val (.int wn0), .val (.int fi), .val (.int ti), .val (.int r12), .val (.int eb0), .unset] [(.int (1 : Int32))]))
        refine own_st (fun t k => XS.istore X22.here hx rfl (hb hby at_149) rfl (l' := #[.val (.int p1), .val (.int p2), .val (.int p3), .val (.int p4), .val (.ref b1), .val (.int sl), .val (.int wn0), .val (.int fi), .val (.int ti), .val (.int r12), .val (.int (1 : Int32)), .unset]) rfl k) ?_
        show own_Go p e below K (T22.setTop (mkF m 151 #[.val (.int p1), .val (.int p2), .val (.int p3), .val (.int p4), .val (.ref b1), .val (.int sl), .val (.int wn0), .val (.int fi), .val (.int ti), .val (.int r12), .val (.int (1 : Int32)), .unset] []))
        exact J151 T22 _ X22 e22 N22 ((1 : Int32)) (own_F.hit (own_B.holds hr22 hc145) (by decide) (by decide))
      refine own_st (fun t k => XS.aload X13.here hx rfl (hb hby at_115) rfl rfl k) ?_
      show own_Go p e below K (T13.setTop (mkF m 117 #[.val (.int p1), .val (.int p2), .val (.int p3), .val (.int p4), .val (.ref b1), .val (.int sl), .val (.int wn0), .val (.int fi), .val (.int ti), .val (.int r12), .val (.int ea0), .unset] [(.ref b1)]))
      refine own_st (fun t k => XS.iload X13.here hx rfl (hb hby at_117) rfl k) ?_
      show own_Go p e below K (T13.setTop (mkF m 119 #[.val (.int p1), .val (.int p2), .val (.int p3), .val (.int p4), .val (.ref b1), .val (.int sl), .val (.int wn0), .val (.int fi), .val (.int ti), .val (.int r12), .val (.int ea0), .unset] [(.int wn0), (.ref b1)]))
      refine own_st (fun t k => XS.iconst X13.here hx rfl (hb hby at_119) k) ?_
      show own_Go p e below K (T13.setTop (mkF m 120 #[.val (.int p1), .val (.int p2), .val (.int p3), .val (.int p4), .val (.ref b1), .val (.int sl), .val (.int wn0), .val (.int fi), .val (.int ti), .val (.int r12), .val (.int ea0), .unset] [(.int (2 : Int32)), (.int wn0), (.ref b1)]))
      refine own_st (fun t k => XS.iload X13.here hx rfl (hb hby at_120) rfl k) ?_
      show own_Go p e below K (T13.setTop (mkF m 122 #[.val (.int p1), .val (.int p2), .val (.int p3), .val (.int p4), .val (.ref b1), .val (.int sl), .val (.int wn0), .val (.int fi), .val (.int ti), .val (.int r12), .val (.int ea0), .unset] [(.int fi), (.int (2 : Int32)), (.int wn0), (.ref b1)]))
      refine own_st (fun t k => XS.iload X13.here hx rfl (hb hby at_122) rfl k) ?_
      show own_Go p e below K (T13.setTop (mkF m 124 #[.val (.int p1), .val (.int p2), .val (.int p3), .val (.int p4), .val (.ref b1), .val (.int sl), .val (.int wn0), .val (.int fi), .val (.int ti), .val (.int r12), .val (.int ea0), .unset] [(.int ti), (.int fi), (.int (2 : Int32)), (.int wn0), (.ref b1)]))
      obtain ⟨_, _, ⟨T23, L23, k23, n23⟩, -, X23, ⟨Lc23, hQ23, l23, y23, z23⟩, st23⟩ := Jvm.LawKit.callS X13 hx (y := (⟨"org/ranktide/formats/LineReaderIndexOfPinLaw", "at", "([BBIII)Z"⟩ : MethodName)) hown (mvT hZ (hw _ (List.mem_of_getElem? (i := 6) rfl))) (mvT hZ (hw _ (List.mem_of_getElem? (i := 7) rfl))) (mvT hZ (hw _ (List.mem_of_getElem? (i := 8) rfl))) (mvT hZ (hw _ (List.mem_of_getElem? (i := 9) rfl))) (by decide) (backOf (W := 0) (rm2 l Z a0 hw [] b1 wn0 (2 : Int32) fi ti (k1) ((4 : Int32)) (bs) h9 n0 Z9 V10 (by decide) (by decide)) hZ (hw _ (List.mem_of_getElem? (i := 9) rfl)) (hw _ (List.mem_of_getElem? (i := 8) rfl)) (by decide) (by decide)) (g := (mkF m 124 #[.val (.int p1), .val (.int p2), .val (.int p3), .val (.int p4), .val (.ref b1), .val (.int sl), .val (.int wn0), .val (.int fi), .val (.int ti), .val (.int r12), .val (.int ea0), .unset] [(.int ti), (.int fi), (.int (2 : Int32)), (.int wn0), (.ref b1)])) rfl (by rw [hml]; rfl) (argsL := [(.ref b1), (.int wn0), (.int (2 : Int32)), (.int fi), (.int ti)]) (rest := []) (lenOf pd_0_1 rfl) rfl (by show 2 * 0 + _ ≤ _; exact Nat.le_of_eq rfl) (hb hby at_124) (fun _ _ => ⟨rfl, e13, (by decide : 1 + 0 ≤ _), (by decide : 4 + 0 ≤ _)⟩)
      dsimp only [Pt.U, Pt.locs, Pt.cells, Pt.slots] at X23 l23 y23 z23 st23 hQ23
      subst l23 y23 z23
      obtain ⟨r23, rfl, hr23, N23q, e23⟩ := hQ23
      have N23 := Fr.app N13 N23q
      refine own_st st23 ?_
      show own_Go p e below K (T23.setTop (mkF m 127 #[.val (.int p1), .val (.int p2), .val (.int p3), .val (.int p4), .val (.ref b1), .val (.int sl), .val (.int wn0), .val (.int fi), .val (.int ti), .val (.int r12), .val (.int ea0), .unset] [(.int r23)]))
      by_cases hc127 : r23 = (0 : Int32)
      · refine own_st (fun t k => XS.ifYes X23.here hx rfl (pc0 := 127) (pc' := 133) rfl (hb hby at_127) rfl ((if0 _ _).trans (teq hc127).1) (by decide) (by decide) k) ?_
        show own_Go p e below K (T23.setTop (mkF m 133 #[.val (.int p1), .val (.int p2), .val (.int p3), .val (.int p4), .val (.ref b1), .val (.int sl), .val (.int wn0), .val (.int fi), .val (.int ti), .val (.int r12), .val (.int ea0), .unset] []))
        exact J133 T23 _ X23 e23 N23 (ea0) (own_F.keep hj115 (own_B.fails hr23 hc127))
      refine own_st (fun t k => XS.ifNo X23.here hx rfl (hb hby at_127) rfl ((if0 _ _).trans (feq hc127).1) k) ?_
      show own_Go p e below K (T23.setTop (mkF m 130 #[.val (.int p1), .val (.int p2), .val (.int p3), .val (.int p4), .val (.ref b1), .val (.int sl), .val (.int wn0), .val (.int fi), .val (.int ti), .val (.int r12), .val (.int ea0), .unset] []))
      refine own_st (fun t k => XS.iconst X23.here hx rfl (hb hby at_130) k) ?_
      show own_Go p e below K (T23.setTop (mkF m 131 #[.val (.int p1), .val (.int p2), .val (.int p3), .val (.int p4), .val (.ref b1), .val (.int sl), .val (.int wn0), .val (.int fi), .val (.int ti), .val (.int r12), .val (.int ea0), .unset] [(.int (2 : Int32))]))
      refine own_st (fun t k => XS.istore X23.here hx rfl (hb hby at_131) rfl (l' := #[.val (.int p1), .val (.int p2), .val (.int p3), .val (.int p4), .val (.ref b1), .val (.int sl), .val (.int wn0), .val (.int fi), .val (.int ti), .val (.int r12), .val (.int (2 : Int32)), .unset]) rfl k) ?_
      show own_Go p e below K (T23.setTop (mkF m 133 #[.val (.int p1), .val (.int p2), .val (.int p3), .val (.int p4), .val (.ref b1), .val (.int sl), .val (.int wn0), .val (.int fi), .val (.int ti), .val (.int r12), .val (.int (2 : Int32)), .unset] []))
      exact J133 T23 _ X23 e23 N23 ((2 : Int32)) (own_F.hit (own_B.holds hr23 hc127) (by decide) (by decide))
    refine own_st (fun t k => XS.aload X12.here hx rfl (hb hby at_97) rfl rfl k) ?_
    show own_Go p e below K (T12.setTop (mkF m 99 #[.val (.int p1), .val (.int p2), .val (.int p3), .val (.int p4), .val (.ref b1), .val (.int sl), .val (.int wn0), .val (.int fi), .val (.int ti), .val (.int r12), .val (.int (-1 : Int32)), .unset] [(.ref b1)]))
    refine own_st (fun t k => XS.iload X12.here hx rfl (hb hby at_99) rfl k) ?_
    show own_Go p e below K (T12.setTop (mkF m 101 #[.val (.int p1), .val (.int p2), .val (.int p3), .val (.int p4), .val (.ref b1), .val (.int sl), .val (.int wn0), .val (.int fi), .val (.int ti), .val (.int r12), .val (.int (-1 : Int32)), .unset] [(.int wn0), (.ref b1)]))
    refine own_st (fun t k => XS.iconst X12.here hx rfl (hb hby at_101) k) ?_
    show own_Go p e below K (T12.setTop (mkF m 102 #[.val (.int p1), .val (.int p2), .val (.int p3), .val (.int p4), .val (.ref b1), .val (.int sl), .val (.int wn0), .val (.int fi), .val (.int ti), .val (.int r12), .val (.int (-1 : Int32)), .unset] [(.int (3 : Int32)), (.int wn0), (.ref b1)]))
    refine own_st (fun t k => XS.iload X12.here hx rfl (hb hby at_102) rfl k) ?_
    show own_Go p e below K (T12.setTop (mkF m 104 #[.val (.int p1), .val (.int p2), .val (.int p3), .val (.int p4), .val (.ref b1), .val (.int sl), .val (.int wn0), .val (.int fi), .val (.int ti), .val (.int r12), .val (.int (-1 : Int32)), .unset] [(.int fi), (.int (3 : Int32)), (.int wn0), (.ref b1)]))
    refine own_st (fun t k => XS.iload X12.here hx rfl (hb hby at_104) rfl k) ?_
    show own_Go p e below K (T12.setTop (mkF m 106 #[.val (.int p1), .val (.int p2), .val (.int p3), .val (.int p4), .val (.ref b1), .val (.int sl), .val (.int wn0), .val (.int fi), .val (.int ti), .val (.int r12), .val (.int (-1 : Int32)), .unset] [(.int ti), (.int fi), (.int (3 : Int32)), (.int wn0), (.ref b1)]))
    obtain ⟨_, _, ⟨T24, L24, k24, n24⟩, -, X24, ⟨Lc24, hQ24, l24, y24, z24⟩, st24⟩ := Jvm.LawKit.callS X12 hx (y := (⟨"org/ranktide/formats/LineReaderIndexOfPinLaw", "at", "([BBIII)Z"⟩ : MethodName)) hown (mvT hZ (hw _ (List.mem_of_getElem? (i := 6) rfl))) (mvT hZ (hw _ (List.mem_of_getElem? (i := 7) rfl))) (mvT hZ (hw _ (List.mem_of_getElem? (i := 8) rfl))) (mvT hZ (hw _ (List.mem_of_getElem? (i := 9) rfl))) (by decide) (backOf (W := 0) (rm2 l Z a0 hw [] b1 wn0 (3 : Int32) fi ti (k1) ((4 : Int32)) (bs) h9 n0 Z9 V10 (by decide) (by decide)) hZ (hw _ (List.mem_of_getElem? (i := 9) rfl)) (hw _ (List.mem_of_getElem? (i := 8) rfl)) (by decide) (by decide)) (g := (mkF m 106 #[.val (.int p1), .val (.int p2), .val (.int p3), .val (.int p4), .val (.ref b1), .val (.int sl), .val (.int wn0), .val (.int fi), .val (.int ti), .val (.int r12), .val (.int (-1 : Int32)), .unset] [(.int ti), (.int fi), (.int (3 : Int32)), (.int wn0), (.ref b1)])) rfl (by rw [hml]; rfl) (argsL := [(.ref b1), (.int wn0), (.int (3 : Int32)), (.int fi), (.int ti)]) (rest := []) (lenOf pd_0_1 rfl) rfl (by show 2 * 0 + _ ≤ _; exact Nat.le_of_eq rfl) (hb hby at_106) (fun _ _ => ⟨rfl, e12, (by decide : 1 + 0 ≤ _), (by decide : 4 + 0 ≤ _)⟩)
    dsimp only [Pt.U, Pt.locs, Pt.cells, Pt.slots] at X24 l24 y24 z24 st24 hQ24
    subst l24 y24 z24
    obtain ⟨r24, rfl, hr24, N24q, e24⟩ := hQ24
    have N24 := Fr.app N12 N24q
    refine own_st st24 ?_
    show own_Go p e below K (T24.setTop (mkF m 109 #[.val (.int p1), .val (.int p2), .val (.int p3), .val (.int p4), .val (.ref b1), .val (.int sl), .val (.int wn0), .val (.int fi), .val (.int ti), .val (.int r12), .val (.int (-1 : Int32)), .unset] [(.int r24)]))
    by_cases hc109 : r24 = (0 : Int32)
    · refine own_st (fun t k => XS.ifYes X24.here hx rfl (pc0 := 109) (pc' := 115) rfl (hb hby at_109) rfl ((if0 _ _).trans (teq hc109).1) (by decide) (by decide) k) ?_
      show own_Go p e below K (T24.setTop (mkF m 115 #[.val (.int p1), .val (.int p2), .val (.int p3), .val (.int p4), .val (.ref b1), .val (.int sl), .val (.int wn0), .val (.int fi), .val (.int ti), .val (.int r12), .val (.int (-1 : Int32)), .unset] []))
      exact J115 T24 _ X24 e24 N24 ((-1 : Int32)) (own_F.keep (own_F.none _ 4) (own_B.fails hr24 hc109))
    refine own_st (fun t k => XS.ifNo X24.here hx rfl (hb hby at_109) rfl ((if0 _ _).trans (feq hc109).1) k) ?_
    show own_Go p e below K (T24.setTop (mkF m 112 #[.val (.int p1), .val (.int p2), .val (.int p3), .val (.int p4), .val (.ref b1), .val (.int sl), .val (.int wn0), .val (.int fi), .val (.int ti), .val (.int r12), .val (.int (-1 : Int32)), .unset] []))
    refine own_st (fun t k => XS.iconst X24.here hx rfl (hb hby at_112) k) ?_
    show own_Go p e below K (T24.setTop (mkF m 113 #[.val (.int p1), .val (.int p2), .val (.int p3), .val (.int p4), .val (.ref b1), .val (.int sl), .val (.int wn0), .val (.int fi), .val (.int ti), .val (.int r12), .val (.int (-1 : Int32)), .unset] [(.int (3 : Int32))]))
    refine own_st (fun t k => XS.istore X24.here hx rfl (hb hby at_113) rfl (l' := #[.val (.int p1), .val (.int p2), .val (.int p3), .val (.int p4), .val (.ref b1), .val (.int sl), .val (.int wn0), .val (.int fi), .val (.int ti), .val (.int r12), .val (.int (3 : Int32)), .unset]) rfl k) ?_
    show own_Go p e below K (T24.setTop (mkF m 115 #[.val (.int p1), .val (.int p2), .val (.int p3), .val (.int p4), .val (.ref b1), .val (.int sl), .val (.int wn0), .val (.int fi), .val (.int ti), .val (.int r12), .val (.int (3 : Int32)), .unset] []))
    exact J115 T24 _ X24 e24 N24 ((3 : Int32)) (own_F.hit (own_B.holds hr24 hc109) (by decide) (by decide))
  refine own_st (fun t k => XS.iload X9.here hx rfl (hb hby at_44) rfl k) ?_
  show own_Go p e below K (T9.setTop (mkF m 46 #[.val (.int p1), .val (.int p2), .val (.int p3), .val (.int p4), .val (.ref b1), .val (.int sl), .unset, .unset, .unset, .unset, .unset, .unset] [(.int sl)]))
  refine own_st (fun t k => XS.iconst X9.here hx rfl (hb hby at_46) k) ?_
  show own_Go p e below K (T9.setTop (mkF m 47 #[.val (.int p1), .val (.int p2), .val (.int p3), .val (.int p4), .val (.ref b1), .val (.int sl), .unset, .unset, .unset, .unset, .unset, .unset] [(.int (4 : Int32)), (.int sl)]))
  by_cases hc47 : sl < (4 : Int32)
  · refine own_st (fun t k => XS.icmpNo X9.here hx rfl (hb hby at_47) rfl (tlt hc47).2.1 k) ?_
    show own_Go p e below K (T9.setTop (mkF m 50 #[.val (.int p1), .val (.int p2), .val (.int p3), .val (.int p4), .val (.ref b1), .val (.int sl), .unset, .unset, .unset, .unset, .unset, .unset] []))
    refine own_st (fun t k => XS.aload X9.here hx rfl (hb hby at_50) rfl rfl k) ?_
    show own_Go p e below K (T9.setTop (mkF m 52 #[.val (.int p1), .val (.int p2), .val (.int p3), .val (.int p4), .val (.ref b1), .val (.int sl), .unset, .unset, .unset, .unset, .unset, .unset] [(.ref b1)]))
    refine own_st (fun t k => XS.iload X9.here hx rfl (hb hby at_52) rfl k) ?_
    show own_Go p e below K (T9.setTop (mkF m 54 #[.val (.int p1), .val (.int p2), .val (.int p3), .val (.int p4), .val (.ref b1), .val (.int sl), .unset, .unset, .unset, .unset, .unset, .unset] [(.int sl), (.ref b1)]))
    obtain ⟨cl25, Ar25, q25, S25, M25, H25, G25⟩ := id V10
    have hin25 : ¬ (sl < 0 ∨ cl25.slots.size ≤ (sl).toNatClampNeg) := inb_of S25 ⟨own_nlt Bs, hc47⟩
    refine own_st (X9.baloadBytes hx (j := sl) (v := (.int (bs.getD (sl).toNatClampNeg 0))) (own_hat e9 Ar25.1) (State.isArrayOf_alike hZ.alike Ar25.2.1) Ar25.2.2 hin25 (Has.at H25 hin25 (own_atI bs _)) (g := (mkF m 54 #[.val (.int p1), .val (.int p2), .val (.int p3), .val (.int p4), .val (.ref b1), .val (.int sl), .unset, .unset, .unset, .unset, .unset, .unset] [(.int sl), (.ref b1)])) rfl rfl (hb hby at_54)) ?_
    show own_Go p e below K (T9.setTop (mkF m 55 #[.val (.int p1), .val (.int p2), .val (.int p3), .val (.int p4), .val (.ref b1), .val (.int sl), .unset, .unset, .unset, .unset, .unset, .unset] [(.int (bs.getD (sl).toNatClampNeg 0))]))
    refine own_st (fun t k => XS.goto X9.here hx rfl (pc0 := 55) (pc' := 63) rfl (hb hby at_55) (by decide) (by decide) k) ?_
    show own_Go p e below K (T9.setTop (mkF m 63 #[.val (.int p1), .val (.int p2), .val (.int p3), .val (.int p4), .val (.ref b1), .val (.int sl), .unset, .unset, .unset, .unset, .unset, .unset] [(.int (bs.getD (sl).toNatClampNeg 0))]))
    exact J63 T9 _ X9 e9 N9 ((bs.getD (sl).toNatClampNeg 0)) trivial
  refine own_st (fun t k => XS.icmpYes X9.here hx rfl (pc0 := 47) (pc' := 58) rfl (hb hby at_47) rfl (flt hc47).2.1 (by decide) (by decide) k) ?_
  show own_Go p e below K (T9.setTop (mkF m 58 #[.val (.int p1), .val (.int p2), .val (.int p3), .val (.int p4), .val (.ref b1), .val (.int sl), .unset, .unset, .unset, .unset, .unset, .unset] []))
  refine own_st (fun t k => XS.iloadN X9.here hx rfl (hb hby at_58) rfl k) ?_
  show own_Go p e below K (T9.setTop (mkF m 59 #[.val (.int p1), .val (.int p2), .val (.int p3), .val (.int p4), .val (.ref b1), .val (.int sl), .unset, .unset, .unset, .unset, .unset, .unset] [(.int p2)]))
  refine own_st (fun t k => XS.bipush X9.here hx rfl (hb hby at_59) k) ?_
  show own_Go p e below K (T9.setTop (mkF m 61 #[.val (.int p1), .val (.int p2), .val (.int p3), .val (.int p4), .val (.ref b1), .val (.int sl), .unset, .unset, .unset, .unset, .unset, .unset] [(.int (8 : Int32)), (.int p2)]))
  refine own_st (fun t k => XS.ishr X9.here hx rfl (hb hby at_61) rfl k) ?_
  show own_Go p e below K (T9.setTop (mkF m 62 #[.val (.int p1), .val (.int p2), .val (.int p3), .val (.int p4), .val (.ref b1), .val (.int sl), .unset, .unset, .unset, .unset, .unset, .unset] [(.int (p2 >>> ((8 : Int32) &&& 31)))]))
  refine own_st (fun t k => XS.i2b X9.here hx rfl (hb hby at_62) rfl k) ?_
  show own_Go p e below K (T9.setTop (mkF m 63 #[.val (.int p1), .val (.int p2), .val (.int p3), .val (.int p4), .val (.ref b1), .val (.int sl), .unset, .unset, .unset, .unset, .unset, .unset] [(.int ((p2 >>> ((8 : Int32) &&& 31)).toInt8.toInt32))]))
  exact J63 T9 _ X9 e9 N9 (((p2 >>> ((8 : Int32) &&& 31)).toInt8.toInt32)) trivial
set_option maxRecDepth 65536 in
set_option maxHeartbeats 40000000 in
theorem comes_1 {Post : Tables → Env → Array Value → State → Outcome → State → Prop} (hpost : ∀ tb e args s v u, (limb_1_1.after args s (.returned v) u = true ∧ limb_1_2.after args s (.returned v) u = true ∧ True) → FrameEnd s (.returned v) u (Jvm.fieldLocs frame_1_writes args s ++ Jvm.arrayLocs frame_1_arrays args s ++ Jvm.staticLocs frame_1_statics s) 16 128 → Post tb e args s (.returned v) u) :
    ArmFor flags0 classFile x code maxLocals ret World_1 tables_1 room_1 Calls_1 rest_1 Pre_1 Post := by
  intro l hfl _ _ p e ha hc hk s m args below hf hA hF happ hP
  obtain ⟨hcalls, hrest, hpre⟩ := hP
  obtain ⟨-, -, -, hnamed, -, -, -, hat⟩ := (Spec.applies_iff hf).mp happ
  obtain ⟨hg, hn⟩ := and_e (Cond.before_iff.mp (show (Jvm.Cond.and given_1 narrow_1).before args s = true from hpre))
  obtain ⟨g1, g2⟩ := and_e hg
  obtain ⟨g3, g4⟩ := and_e g2
  obtain ⟨g5, g6⟩ := and_e g4
  obtain ⟨g7, g8⟩ := and_e g6
  obtain ⟨w0, w1, w2, w3, rfl⟩ : ∃ w0 w1 w2 w3 : Value, args = #[w0, w1, w2, w3] := by
    have hs : args.size = 4 := by simpa [Cond.value, given_1] using g1
    obtain ⟨L⟩ := args
    match L, hs with
    | [w0, w1, w2, w3], _ => exact ⟨w0, w1, w2, w3, rfl⟩
  have hw := fun d (hd : d ∈ tables_1) => atoms_spec (ws := Jvm.Cond.code x code maxLocals ret :: tables_1) hat d (List.mem_cons_of_mem _ hd)
  have hfit : Fit s := fun {y c} hc i hi => by
    obtain ⟨ha, rfl⟩ := Array.getElem?_eq_some_iff.mp hc
    have q := List.all_eq_true.mp ((Array.all_eq_true_iff_forall_mem.mp hF) _ (Array.getElem_mem ha)) i (List.mem_range.mpr hi)
    simpa [Array.getElem?_eq_getElem hi] using q
  obtain ⟨i0, ei0⟩ := is_v g3
  obtain rfl : w0 = (.int i0) := Option.some.inj ei0
  obtain ⟨i1, ei1⟩ := is_v g5
  obtain rfl : w1 = (.int i1) := Option.some.inj ei1
  obtain ⟨i2, ei2⟩ := is_v g7
  obtain rfl : w2 = (.int i2) := Option.some.inj ei2
  obtain ⟨i3, ei3⟩ := is_v g8
  obtain rfl : w3 = (.int i3) := Option.some.inj ei3
  obtain ⟨n, o, h1, h2, h3, _, L, rfl, ⟨rfl, N⟩, hq⟩ := rm0 l s _ hw tables_1 i0 i1 i2 i3 s.heap s.heap.size (Nat.le_refl _) p e ha hc hk s m _ below hf ((Spec.applies_iff_loose hf).mp happ).1 ⟨rfl, State.Warmed39.refl s, rfl⟩ trivial
  refine ⟨n, _, h1, h2, h3, hpost _ _ _ _ _ _ ⟨Cond.after_iff.mpr rfl, Cond.after_iff.mpr (eq_i res_at (Term.int_eval (1)) rfl), trivial⟩ ⟨hq.1, hq.2.1, (hq.2.2.sift fun y hy => Or.inr (N y hy)).mono (by decide) (by decide)⟩⟩
theorem main_1_1 : Claimed_1_1 := comes_1 fun _ _ _ _ _ _ h hF => ⟨h.1, hF⟩
theorem main_1_2 : Claimed_1_2 := comes_1 fun _ _ _ _ _ _ h hF => ⟨h.2.1, hF⟩
end Jvm.Pilot.@@N@@
namespace Jvm.Pilot.@@N@@
open Jvm Jvm.ClassFile Sem Op Lib Jvm.Free Jvm.Stand Jvm.Pilot.@@N@@.Jvm.D
/-! MADE BY PROGRAM (witnessworld.py) out of the Statement's table words and the real class files: 9 classes; the members and pool entries that the words name. The judged class is class 1, her method 2. -/
namespace start1
open Jvm.ClassFile
def u (s : String) : CpInfo := .utf8 (stringToUtf16 s)
/-- a pool by its gaps: so many unusable entries, then the entry; so many at the end -/
def gap : Nat → List CpInfo → List CpInfo
  | 0, r => r
  | n + 1, r => .unusable :: gap n r
def poolList (es : List (Nat × CpInfo)) (last : Nat) : List CpInfo := es.foldr (fun e r => gap e.1 (e.2 :: r)) (gap last [])
def pool (es : List (Nat × CpInfo)) (last : Nat) : Array CpInfo := ⟨poolList es last⟩
def fileOf (pool : Array CpInfo) (this : Nat) (attrs : Array Attribute := #[]) (ms : Array MethodInfo := #[]) (fl : Nat := 33) (sup : Nat := 0) (ifs : Array Nat := #[]) (fds : Array FieldInfo := #[]) : ClassFile where
  minorVersion := 0
  majorVersion := 65
  constantPool := pool
  accessFlags := fl
  thisClass := this
  superClass := sup
  interfaces := ifs
  fields := fds
  methods := ms
  attributes := attrs
def plain (name : String) (sup : Option ClassId) : Class where
  name := name
  kind := .ordinary
  loader := none
  accessFlags := 33
  super := sup
  interfaces := #[]
  cf := none
  fields := #[]
  methods := #[]
  instanceTypes := #[]
  staticTypes := #[]
  resolved := #[]
  callSites := []
  init := .initialized
  statics := none
  mirror := none

def pool0 : Array CpInfo := pool [(5, u "<init>"), (0, u "()V"), (1, .class_ 10), (1, u "java/lang/Object")] 113

def k0m0 : Method := { name := "<init>", desc := "()V", sig := { parameters := [], returnType := none }, accessFlags := 1, code := none }
/-- java/lang/Object -/
def k0 : Class := { plain "java/lang/Object" none with
  accessFlags := 33
  interfaces := #[]
  cf := some (fileOf pool0 8 #[] #[{ accessFlags := 1, nameIndex := 5, descriptorIndex := 6, attributes := #[] }] 33 0 #[] #[])
  fields := #[]
  methods := #[k0m0]
  instanceTypes := #[]
  staticTypes := #[]
  resolved := Array.replicate 124 none
  statics := none }

def pool1 : Array CpInfo := pool [(2, .class_ 4), (1, u "java/lang/Object"), (0, u "<init>"), (0, u "()V"), (0, .integer 2147483647), (0, .methodref 9 10), (0, .class_ 11), (0, .nameAndType 12 13), (0, u "org/ranktide/formats/LineReader"), (0, u "indexOf"), (0, u "([BBII)I"), (0, .methodref 15 16), (0, .class_ 17), (0, .nameAndType 18 19), (0, u "org/ranktide/formats/LineReaderIndexOfPinLaw"), (0, u "at"), (0, u "([BBIII)Z"), (3, u "law"), (0, u "(IIII)Z")] 4

def k1m0 : Method := { name := "<init>", desc := "()V", sig := { parameters := [], returnType := none }, accessFlags := 1, code := none }
def k1c1 : Code := { maxStack := 2, maxLocals := 5, code := method_2_code, exceptionTable := #[], attributes := #[] }
def k1m1 : Method := { name := "at", desc := "([BBIII)Z", sig := { parameters := [(.array .byte), .byte, .int, .int, .int], returnType := some .boolean }, accessFlags := 10, code := some k1c1 }
def k1c2 : Code := { maxStack := 5, maxLocals := 12, code := code, exceptionTable := #[], attributes := #[] }
def k1m2 : Method := { name := "law", desc := "(IIII)Z", sig := { parameters := [.int, .int, .int, .int], returnType := some .boolean }, accessFlags := 9, code := some k1c2 }
/-- org/ranktide/formats/LineReaderIndexOfPinLaw -/
def k1 : Class := { plain "org/ranktide/formats/LineReaderIndexOfPinLaw" (some 0) with
  accessFlags := 49
  interfaces := #[]
  cf := some (fileOf pool1 15 #[] #[{ accessFlags := 1, nameIndex := 5, descriptorIndex := 6, attributes := #[] }, { accessFlags := 10, nameIndex := 18, descriptorIndex := 19, attributes := #[] }, { accessFlags := 9, nameIndex := 23, descriptorIndex := 24, attributes := #[] }] 49 2 #[] #[])
  fields := #[]
  methods := #[k1m0, k1m1, k1m2]
  instanceTypes := #[]
  staticTypes := #[]
  resolved := Array.replicate 29 none
  statics := none }

def pool2 : Array CpInfo := pool [(2, .class_ 4), (1, u "java/lang/Object"), (3, .class_ 10), (1, u "org/ranktide/formats/LineReader"), (0, u "file"), (0, u "Ljava/nio/file/Path;"), (2, u "badLines"), (0, u "Lorg/ranktide/formats/BadLines;"), (2, u "consumer"), (0, u "Lorg/ranktide/formats/LineReader$Consumer;"), (9, u "skipped"), (0, u "J"), (6, u "lineNumber"), (15, u "indexOf"), (0, u "([BBII)I"), (25, .class_ 83), (1, u "org/ranktide/formats/LineReader$Consumer"), (19, u "BUFFER_SIZE"), (0, u "I"), (1, u "MAX_LINE")] 38

def k2c0 : Code := { maxStack := 2, maxLocals := 5, code := prog_25_method_7_code, exceptionTable := #[], attributes := #[] }
def k2m0 : Method := { name := "indexOf", desc := "([BBII)I", sig := { parameters := [(.array .byte), .byte, .int, .int], returnType := some .int }, accessFlags := 8, code := some k2c0 }
/-- org/ranktide/formats/LineReader -/
def k2 : Class := { plain "org/ranktide/formats/LineReader" (some 0) with
  accessFlags := 48
  interfaces := #[]
  cf := some (fileOf pool2 8 #[.nestMembers #[81]] #[{ accessFlags := 8, nameIndex := 54, descriptorIndex := 55, attributes := #[] }] 48 2 #[] #[{ accessFlags := 26, nameIndex := 103, descriptorIndex := 104, attributes := #[] }, { accessFlags := 26, nameIndex := 106, descriptorIndex := 104, attributes := #[] }, { accessFlags := 18, nameIndex := 11, descriptorIndex := 12, attributes := #[] }, { accessFlags := 18, nameIndex := 15, descriptorIndex := 16, attributes := #[] }, { accessFlags := 18, nameIndex := 19, descriptorIndex := 20, attributes := #[] }, { accessFlags := 2, nameIndex := 38, descriptorIndex := 31, attributes := #[] }, { accessFlags := 2, nameIndex := 30, descriptorIndex := 31, attributes := #[] }])
  fields := #[{ name := "BUFFER_SIZE", type := .int, accessFlags := 26, slot := 0, constantValue := 0 }, { name := "MAX_LINE", type := .int, accessFlags := 26, slot := 1, constantValue := 0 }, { name := "file", type := (.object "java/nio/file/Path"), accessFlags := 18, slot := 0, constantValue := 0 }, { name := "badLines", type := (.object "org/ranktide/formats/BadLines"), accessFlags := 18, slot := 1, constantValue := 0 }, { name := "consumer", type := (.object "org/ranktide/formats/LineReader$Consumer"), accessFlags := 18, slot := 2, constantValue := 0 }, { name := "lineNumber", type := .long, accessFlags := 2, slot := 3, constantValue := 0 }, { name := "skipped", type := .long, accessFlags := 2, slot := 4, constantValue := 0 }]
  methods := #[k2m0]
  instanceTypes := #[(.object "java/nio/file/Path"), (.object "org/ranktide/formats/BadLines"), (.object "org/ranktide/formats/LineReader$Consumer"), .long, .long]
  staticTypes := #[.int, .int]
  resolved := Array.replicate 145 none
  statics := none }

def pool3 : Array CpInfo := pool [(1, u "java/lang/Cloneable"), (0, .class_ 1), (0, u "java/lang/Object"), (0, .class_ 3)] 3

/-- java/lang/Cloneable -/
def k3 : Class := { plain "java/lang/Cloneable" (some 0) with
  accessFlags := 1537
  interfaces := #[]
  cf := some (fileOf pool3 2 #[] #[] 1537 4 #[] #[])
  fields := #[]
  methods := #[]
  instanceTypes := #[]
  staticTypes := #[]
  resolved := Array.replicate 8 none
  statics := none }

def pool4 : Array CpInfo := pool [(1, u "java/io/Serializable"), (0, .class_ 1), (0, u "java/lang/Object"), (0, .class_ 3)] 3

/-- java/io/Serializable -/
def k4 : Class := { plain "java/io/Serializable" (some 0) with
  accessFlags := 1537
  interfaces := #[]
  cf := some (fileOf pool4 2 #[] #[] 1537 4 #[] #[])
  fields := #[]
  methods := #[]
  instanceTypes := #[]
  staticTypes := #[]
  resolved := Array.replicate 8 none
  statics := none }

/-- the primitive byte -/
def k5 : Class := { plain "byte" none with kind := .primitive 'B', accessFlags := 0x411 }
/-- [B -/
def k6 : Class := { plain "[B" (some 0) with kind := .array 5 .byte, interfaces := #[3, 4], accessFlags := 1041 }

/-- the primitive int -/
def k7 : Class := { plain "int" none with kind := .primitive 'I', accessFlags := 0x411 }
/-- [I -/
def k8 : Class := { plain "[I" (some 0) with kind := .array 7 .int, interfaces := #[3, 4], accessFlags := 1041 }

def heap : Heap := #[]
def classes : Array Class := #[k0, k1, k2, k3, k4, k5, k6, k7, k8]
def interned : List (Array UInt16 × Addr) := []
def slotsUsed : Nat := 0
def theMethod : MethodId := ⟨1, 2⟩
def args0 : Array Value := #[.int 1, .int 2, .int 3, .int 4]
def aboutOver (below : List Frame) : State where
  vm := { classes := classes, interned := interned.toArray }
  heap := heap
  slotsUsed := slotsUsed
  threads := #[{ frames := .invoking theMethod args0 :: below }]
def below0 : List Frame := [.native { method := ⟨0, 0⟩, args := #[] }]
def about1 : State := aboutOver below0
def p0 : Program := .bare "" "" ""
def e0 : Env := launch0.env 0 0 0
theorem w_frames : about1.frames = Frame.invoking theMethod args0 :: below0 := rfl
set_option maxRecDepth 65536 in
theorem w_args : argsFit about1.vm theMethod args0 = true := by decide +kernel
set_option maxRecDepth 65536 in
theorem w_heap : heapFits about1 = true := by decide +kernel
set_option maxRecDepth 65536 in
theorem w_runnable : about1.curStatus? = some .runnable := by decide +kernel
set_option maxRecDepth 65536 in
theorem w_alone : about1.alone = true := by decide +kernel
set_option maxRecDepth 65536 in
theorem w_named : about1.methodNamed? x = some theMethod := by decide +kernel
set_option maxRecDepth 65536 in
theorem w_hears : about1.hears theMethod below0 = true := by decide +kernel
set_option maxRecDepth 65536 in
theorem w_ripe : about1.ripe theMethod args0 below0 = true := by decide +kernel
theorem w_running : about1.status = .running := rfl
set_option maxRecDepth 65536 in
theorem w_room : about1.hasRoom e0.platform room_1 = true :=
  launch0.hasRoom_least _ room_1 (by decide +kernel) (by decide +kernel) (by decide +kernel) (by decide +kernel) (by decide +kernel) (by decide +kernel)
theorem allAtoms_all (ts : List Jvm.Cond) (a : Array Jvm.Value) (st : Jvm.State) : (allAtoms ts).before a st = ts.all (fun c => c.before a st) := by
  induction ts with
  | nil => rfl
  | cons c t ih =>
    show (Jvm.Cond.and c (allAtoms t)).before a st = _
    rw [Jvm.Cond.before_and, ih, List.all_cons]
def words1 : List Jvm.Cond := Jvm.Cond.code x code maxLocals ret :: tables_1
/-- a 'code' word, met by the world's own term for the bytes: nothing is compared byte by byte -/
theorem code_word {y : MethodName} {bytes : ByteArray} {mx : Nat} {rt : Option FieldType} {a : Array Value} {s : State} {m : MethodId} {meth : Method} {c : Code} (h1 : s.methodNamed? y = some m) (h2 : s.vm.method? m = some meth) (h3 : meth.code = some c) (h4 : c.code = bytes)
    (h5 : (c.maxLocals == mx && c.exceptionTable.isEmpty && decide (c.maxStack ≤ mostOperands) && decide (meth.sig.returnType = rt) && !meth.locks && decide (parseMethodDescriptor y.desc = some meth.sig)) = true) : (Jvm.Cond.code y bytes mx rt).before a s = true := by
  simp only [Bool.and_eq_true, beq_iff_eq, Bool.not_eq_true', decide_eq_true_eq] at h5
  obtain ⟨⟨⟨⟨⟨g1, g2⟩, g3⟩, g4⟩, g5⟩, g6⟩ := h5
  simp [Cond.before, Cond.holds, Cond.value, h1, h2, h3, h4, g1, g2, g3, g4, g5, g6]
def isCode : Jvm.Cond → Bool
  | .code _ _ _ _ => true
  | _ => false
theorem all_split {L : List Jvm.Cond} {P : Jvm.Cond → Bool} (h1 : L.all (fun c => isCode c || P c) = true) (h2 : ∀ c ∈ L.filter isCode, P c = true) : L.all P = true := by
  refine List.all_eq_true.mpr fun c hc => ?_
  have h := List.all_eq_true.mp h1 c hc
  rcases Bool.eq_false_or_eq_true (isCode c) with hi | hi
  · exact h2 c (List.mem_filter.mpr ⟨hc, hi⟩)
  · simpa [hi] using h
set_option maxRecDepth 65536 in
theorem w_c0 : (Jvm.Cond.code x code maxLocals ret).before args0 about1 = true := code_word (m := ⟨1, 2⟩) (meth := k1m2) (c := k1c2) (by decide +kernel) rfl rfl rfl (by decide +kernel)
set_option maxRecDepth 65536 in
theorem w_c1 : (Jvm.Cond.code ({ cls := "org/ranktide/formats/LineReader", name := "indexOf", desc := "([BBII)I" } : Jvm.MethodName) prog_25_method_7_code (5 : Nat) (Option.some Jvm.ClassFile.FieldType.int)).before args0 about1 = true := code_word (m := ⟨2, 0⟩) (meth := k2m0) (c := k2c0) (by decide +kernel) rfl rfl rfl (by decide +kernel)
set_option maxRecDepth 65536 in
theorem w_c2 : (Jvm.Cond.code ({ cls := "org/ranktide/formats/LineReaderIndexOfPinLaw", name := "at", desc := "([BBIII)Z" } : Jvm.MethodName) method_2_code (5 : Nat) (Option.some Jvm.ClassFile.FieldType.boolean)).before args0 about1 = true := code_word (m := ⟨1, 1⟩) (meth := k1m1) (c := k1c1) (by decide +kernel) rfl rfl rfl (by decide +kernel)
def codes1 : List Jvm.Cond := [Jvm.Cond.code x code maxLocals ret, Jvm.Cond.code ({ cls := "org/ranktide/formats/LineReader", name := "indexOf", desc := "([BBII)I" } : Jvm.MethodName) prog_25_method_7_code (5 : Nat) (Option.some Jvm.ClassFile.FieldType.int), Jvm.Cond.code ({ cls := "org/ranktide/formats/LineReaderIndexOfPinLaw", name := "at", desc := "([BBIII)Z" } : Jvm.MethodName) method_2_code (5 : Nat) (Option.some Jvm.ClassFile.FieldType.boolean)]
set_option maxRecDepth 65536 in
theorem codes_eq : words1.filter isCode = codes1 := rfl
theorem w_codes : ∀ c ∈ words1.filter isCode, c.before args0 about1 = true := by
  rw [codes_eq]
  intro c hc
  simp only [codes1, List.mem_cons, List.not_mem_nil, or_false] at hc
  rcases hc with rfl | rfl | rfl
  · exact w_c0
  · exact w_c1
  · exact w_c2
set_option maxRecDepth 65536 in
theorem w_t1 : words1.all (fun c => isCode c || c.before args0 about1) = true := by decide +kernel
theorem w_tables : (allAtoms (Jvm.Cond.code x code maxLocals ret :: tables_1)).before args0 about1 = true := by
  rw [allAtoms_all]
  show words1.all (fun c => c.before args0 about1) = true
  refine all_split ?_ w_codes
  rw [w_t1]
set_option maxRecDepth 65536 in
theorem w_case : (Jvm.Cond.and given_1 narrow_1).before args0 about1 = true := by decide +kernel
theorem w_applies : (headSpec (Jvm.Cond.code x code maxLocals ret :: tables_1) room_1).applies x e0.platform about1 = true :=
  (Spec.applies_iff w_frames).mpr ⟨w_running, w_runnable, w_alone, w_named, w_hears, w_ripe, w_room, w_tables⟩
theorem atStart : AtStart classFile x code maxLocals ret World_1 tables_1 room_1 Calls_1 rest_1 Pre_1 launch0 p0 e0 about1 theMethod args0 below0 :=
  ⟨lists_1, trivial, launch0.admits_env _ _ _, launch0.least_env, fairChoices_fair.cas, fairChoices_fair.clock, w_frames, w_args, w_heap, w_applies, trivial, trivial, w_case⟩
end start1
theorem witness_1 : WitnessClaimed_1 := ⟨start1.p0, start1.e0, start1.about1, start1.theMethod, start1.args0, start1.below0, start1.atStart⟩
end Jvm.Pilot.@@N@@
