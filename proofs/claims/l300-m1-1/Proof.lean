import JvmDerived
import JvmDerived.Pilot.@@N@@Statement
import JvmDerived.Pilot.@@N@@Code
set_option linter.unusedVariables false
set_option linter.unusedSimpArgs false
namespace Jvm.RoadKit
open Sem ClassFile Op Lib Jvm.Stand Jvm.Free Jvm.LawKit
section New
variable {p : Program} {l : Launch} {e : Env} {R : Room} {s : State} {m : MethodId} {args : Array Value} {below : List Frame} {meth : Method} {c : Code} {T : State} {locs : List Loc} {cells slots : Nat}
theorem retI (X : Stand p l e R s m args below meth c T locs cells slots) (hx : p.tables.exec = Jvm.exec) {pc : Nat} {Ls : Array Slot} {z : Int32} {rest : List Value} (hret : meth.sig.returnType = some .int) (hd : decode c.code pc = .ok (.ireturn, 1)) {fs : List Frame}
    (hl : ∀ (f : JFrame) (acts : List Action), f.method = m → f.locked = none → f.entered = [] → (doReturn e (T.setTop f) acts (some (.int z))).1 = T.setFrames fs) : Steps p.tables e below (T.setTop (mkF m pc Ls (.int z :: rest))) (T.setFrames fs) := by
  have hm' : T.vm.method? m = some meth := X.method'
  have hn : narrow .int (.int z) = .int z := rfl
  show Steps p.tables e below (T.setTop { method := m, pc := pc, locals := Ls, stack := _ :: rest, locked := none }) _
  jvm_step X.here [X.here.top, hx, hd, hm', hret, hn]
  first | (intro acts; rw [hl _ acts rfl rfl rfl]) | rw [hl _ _ rfl rfl rfl]
  exact Steps.refl _
end New
end Jvm.RoadKit
namespace Jvm.Pilot.@@N@@
open Jvm Jvm.ClassFile Sem Op Lib Jvm.Free Jvm.Stand Jvm.LawKit Jvm.RoadKit Bundle Jvm.Pilot.@@N@@.Jvm.D
/-- from the state T the run comes to a state of which K holds -/
def own_Go (p : Program) (e : Env) (below : List Frame) (K : State → Prop) (T : State) : Prop := ∃ t, Steps p.tables e below T t ∧ K t
theorem own_st {p : Program} {e : Env} {below : List Frame} {K : State → Prop} {T T' : State} (h : ∀ t, Steps p.tables e below T' t → Steps p.tables e below T t) (g : own_Go p e below K T') : own_Go p e below K T := by
  obtain ⟨t, a, b⟩ := g; exact ⟨t, h t a, b⟩
theorem own_tr {p : Program} {e : Env} {below : List Frame} {K : State → Prop} {T T' : State} (h : Steps p.tables e below T T') (g : own_Go p e below K T') : own_Go p e below K T := by
  obtain ⟨t, a, b⟩ := g; exact ⟨t, h.trans a, b⟩
theorem own_lrem {tb : Tables} [Ours tb] {e : Env} {below : List Frame} {T target : State} {m : MethodId} {c : Code} {g : JFrame} (h : At T m c below) (hx : tb.exec = Jvm.exec) (hg : g.method = m) {x y : Int64} {rest : List Value} (hd : decode c.code g.pc = .ok (.lrem, 1)) (hs : g.stack = .long y :: .long x :: rest) (hy : y ≠ 0)
    (hr : Steps tb e below (T.setTop { g with pc := g.pc + 1, stack := .long (x % y) :: rest }) target) : Steps tb e below (T.setTop g) target := by
  have q : x - x / y * y = x % y := lrem_mod x y
  exact XS.lrem h hx hg hd hs hy (by rw [q]; exact hr)
/-- a boolean's worth: 1 where P holds, 0 where it doesn't -/
def own_B (P : Prop) (r : Int32) : Prop := (r = 1 ∧ P) ∨ (r = 0 ∧ ¬ P)
theorem own_B.yes {P : Prop} {r : Int32} (e : r = 1) (h : P) : own_B P r := Or.inl ⟨e, h⟩
theorem own_B.no {P : Prop} {r : Int32} (e : r = 0) (h : ¬ P) : own_B P r := Or.inr ⟨e, h⟩
theorem own_B.same {P Q : Prop} {r v : Int32} (a : own_B P r) (b : own_B Q v) (h : P ↔ Q) : r = v := by
  rcases a with ⟨rfl, p⟩ | ⟨rfl, p⟩ <;> rcases b with ⟨rfl, q⟩ | ⟨rfl, q⟩
  · rfl
  · exact absurd (h.mp p) q
  · exact absurd (h.mpr q) p
  · rfl
theorem own_B.one {P : Prop} {r : Int32} (a : own_B P r) (h : P) : r = 1 := by
  rcases a with ⟨rfl, p⟩ | ⟨rfl, p⟩
  · rfl
  · exact absurd h p
theorem own_B.zero {P : Prop} {r : Int32} (a : own_B P r) (h : ¬ P) : r = 0 := by
  rcases a with ⟨rfl, p⟩ | ⟨rfl, p⟩
  · exact absurd p h
  · rfl
theorem own_B.ne0 {P : Prop} {r : Int32} (a : own_B P r) (h : P) : ¬ r = 0 := by rw [a.one h]; decide
theorem own_B.holds {P : Prop} {r : Int32} (a : own_B P r) (h : ¬ r = 0) : P := by
  rcases a with ⟨rfl, p⟩ | ⟨rfl, p⟩
  · exact p
  · exact absurd rfl h
theorem own_B.fails {P : Prop} {r : Int32} (a : own_B P r) (h : r = 0) : ¬ P := by
  rcases a with ⟨rfl, p⟩ | ⟨rfl, p⟩
  · exact absurd h (by decide)
  · exact p
theorem own_atJ (ws : List Int64) (i : Nat) : (ws.map Value.long).getD i (.long (0 : Int64)) = .long (ws.getD i 0) := by
  simp only [List.getD, List.getElem?_map]; cases ws[i]? <;> rfl
theorem own_atI (ws : List Int32) (i : Nat) : (ws.map Value.int).getD i (.int (0 : Int32)) = .int (ws.getD i 0) := by
  simp only [List.getD, List.getElem?_map]; cases ws[i]? <;> rfl
theorem own_selp {Z s : State} {a0 args : Array Value} {y : MethodName} {n : Nat} (hZ : Z.Warmed39 s.vm) (wi : (Jvm.Cond.instantiable y.cls n).before a0 Z = true) (wm : (Jvm.Cond.instanceMethod y).before a0 Z = true) (wp : (Jvm.Cond.privateMethod y).before a0 Z = true) (hy : y.cls ≠ "java/lang/invoke/MethodHandle" ∧ y.cls ≠ "java/lang/invoke/VarHandle") : (Jvm.Cond.selects y.cls y y).before args s = true := by
  have w1 : (Jvm.Cond.instantiable y.cls n).before args s = true := mvT hZ wi
  obtain ⟨c, k, h1, h2, h3, h4, -⟩ := Cond.instantiable_spec w1
  have h5 : k.isInterface = false := by cases hq : k.isInterface <;> simp [hq] at h4 ⊢
  exact selects_self_of_private h1 h2 h5 (Cond.privateMethod_at (mvP hZ wp (args := args))) (mvT hZ wm) hy
theorem own_hat {T : State} {h : Heap} {a : Addr} {c : Cell} (e : T.heap = h) (q : h[a]? = some c) : T.heap[a]? = some c := by rw [e]; exact q
theorem own_nn (x : Int32) : nar .byte (nar .byte x) = nar .byte x := by
  refine Int32.toInt_inj.mp ?_
  have a := c_i2b x
  have b := c_i2b x.toInt8.toInt32
  show x.toInt8.toInt32.toInt8.toInt32.toInt = x.toInt8.toInt32.toInt
  omega
theorem own_nb (x : Int32) : nar .byte x.toInt8.toInt32 = x.toInt8.toInt32 := own_nn x
theorem own_fit {x : Int32} (h : nar .byte x = x) : fits .byte (.int x) = true := by rw [← h]; exact fits_nar_byte x
theorem own_cl {j : Int32} {i : Nat} (h : j.toInt = (i : Int)) : j.toNatClampNeg = i := by rw [Int32.toNatClampNeg, h]; rfl
theorem own_lt {a b : Int32} (h : a.toInt < b.toInt) : a < b := Int32.lt_iff_toInt_lt.mpr h
theorem own_nlt {a b : Int32} (h : b.toInt ≤ a.toInt) : ¬ a < b := fun q => absurd (Int32.lt_iff_toInt_lt.mp q) (by omega)
theorem own_ltI {a b : Int32} (h : a < b) : a.toInt < b.toInt := Int32.lt_iff_toInt_lt.mp h
theorem own_nltI {a b : Int32} (h : ¬ a < b) : b.toInt ≤ a.toInt := by have := mt Int32.lt_iff_toInt_lt.mpr h; omega
theorem own_neI {a b : Int32} (h : ¬ a = b) : ¬ a.toInt = b.toInt := fun q => h (Int32.toInt_inj.mp q)
theorem own_ltL {a b : Int64} (h : a < b) : a.toInt < b.toInt := Int64.lt_iff_toInt_lt.mp h
theorem own_nltL {a b : Int64} (h : ¬ a < b) : b.toInt ≤ a.toInt := by have := mt Int64.lt_iff_toInt_lt.mpr h; omega
theorem own_neL {a b : Int64} (h : ¬ a = b) : ¬ a.toInt = b.toInt := fun q => h (Int64.toInt_inj.mp q)
section Wide
variable {p : Program} {l : Launch} {e : Env} {R : Room} {s : State} {args : Array Value} {below : List Frame} {Z : State} {a0 : Array Value} {h h' : Heap} {vm vm' : Vm}
/-- the heap has at least k cells -/
def own_G (k : Nat) (h : Heap) : Prop := k ≤ h.size
theorem own_G.ext {k : Nat} (G : own_G k h) (E : Ext h h') : own_G k h' := Nat.le_trans G E.1
theorem own_G.keep {k : Nat} {ws : List Addr} (G : own_G k h) (K : Keep h h' ws) : own_G k h' := Nat.le_trans G K.1
theorem own_G.wr {k : Nat} {a : Addr} {sl : Nat} {v : Value} (G : own_G k h) (W : Wr h h' a sl v) : own_G k h' := G.keep (Keep.of_wr W)
/-- the literal "" of java/lang/String: nothing interned since Z, or loaded and known -/
def own_W (Z : State) (vm : Vm) (h : Heap) : Prop :=
  IB Z vm [] ∨ ∃ (a b : Addr) (k : ClassId), Lit (Z.setVm vm) "java/lang/String" 7 a ∧ Exa Z h a "java/lang/String" ∧ Fld Z h a "java/lang/String" "coder" "B" (.int (0 : Int32)) ∧ Fld Z h a "java/lang/String" "value" "[B" (.ref b) ∧ Arv Z h b k .byte (0 : Int32) [] (.int (0 : Int32))
theorem own_W.ext (W : own_W Z vm h) (E : Ext h h') : own_W Z vm h' := by
  rcases W with W | ⟨a, b, k, h1, h2, h3, h4, h5⟩
  · exact Or.inl W
  · exact Or.inr ⟨a, b, k, h1, h2.ext E, h3.ext E, h4.ext E, h5.ext E⟩
theorem own_W.keep {x : Addr} {C : String} {n : Nat} (W : own_W Z vm h) (K : Keep h h' [x]) (X : Exa Z h x C) (hC : C ≠ "java/lang/String") (w : (Jvm.Cond.instantiable C n).before a0 Z = true) : own_W Z vm h' := by
  rcases W with W | ⟨a, b, k, h1, h2, h3, h4, h5⟩
  · exact Or.inl W
  · have n1 : a ≠ x := Ne.symm (Exa.ne X h2 hC)
    have n2 : b ≠ x := Ne.symm (X.neArv h5 w)
    exact Or.inr ⟨a, b, k, h1, h2.keep K, h3.keep K (ninS n1 nin0), h4.keep K (ninS n1 nin0), h5.keep K (ninS n2 nin0)⟩
theorem own_W.keep0 (W : own_W Z vm h) (K : Keep h h' []) : own_W Z vm h' := by
  rcases W with W | ⟨a, b, k, h1, h2, h3, h4, h5⟩
  · exact Or.inl W
  · exact Or.inr ⟨a, b, k, h1, h2.keep K, h3.keep K nin0, h4.keep K nin0, h5.keep K nin0⟩
theorem own_litw {own : String} {i : Nat} {a : Addr} (L : Lit (Z.setVm s.vm) own i a) (q : s.Warmed39 vm') : Lit (Z.setVm vm') own i a := by
  have L' : Lit (s.setVm s.vm) own i a := L
  exact Lit.stays (s := s) L' q
theorem own_W.warm (W : own_W Z s.vm h) (q : s.WarmedH vm') : own_W Z vm' h := by
  rcases W with W | ⟨a, b, k, h1, h2, h3, h4, h5⟩
  · obtain ⟨more, e1, e2⟩ := W
    exact Or.inl ⟨more, by rw [q.interned_eq]; exact e1, e2⟩
  · exact Or.inr ⟨a, b, k, own_litw h1 q.wide, h2, h3, h4, h5⟩
theorem own_backS {y : MethodName} {bytes : ByteArray} {maxL : Nat} {ret : Option FieldType} {rm : Room} {len W : Nat} {as' : Array Value} {V : Vm → Prop} {Q : Option Value → Heap → Vm → List Loc → Prop}
    (hM : MetFree l y (head1 [Cond.code y bytes maxL ret] rm) (fun a U => a = as' ∧ Z.Warmed39 U.vm ∧ U.heap = h ∧ V U.vm) (fun _ _ _ _ _ => True) (fun _ U o U' => ∃ v L, o = .returned v ∧ Q v U'.heap U'.vm L ∧ ReturnedEndW U o U' L rm.cells rm.slots))
    (hZ : Z.Warmed39 s.vm) (hV : ∀ vm', s.WarmedH vm' → V vm') (wc : (Cond.code y bytes maxL ret).before a0 Z = true) (wz : (Cond.initialized y.cls).before a0 Z = true) (hf : rm.frames + 1 ≤ R.frames) (hl : W + (maxL + 11) + rm.locals ≤ R.locals) :
    BackS l R p e below s args y len W (fun A a => a = as' ∧ A.U.heap = h ∧ A.cells + rm.cells ≤ R.cells ∧ A.slots + rm.slots ≤ R.slots)
      (fun A _ v B => ∃ L, Q v B.U.heap B.U.vm L ∧ B.locs = A.locs ++ L ∧ B.cells = A.cells + rm.cells ∧ B.slots = A.slots + rm.slots) :=
  BackS.of_freeW (bytes := bytes) (maxL := maxL) (ret := ret) (E := fun _ _ o t L k n => k = rm.cells ∧ n = rm.slots ∧ ∃ v, o = .returned v ∧ Q v t.heap t.vm L) hM hf hl
    (fun m meth c A a Y hp => have hU : Z.Warmed39 A.U.vm := wtrans hZ Y.warmed
      ⟨by show (Cond.and _ .tt).before a A.U = true; rw [Cond.before_and, mv hU wc]; rfl, mv hU wc, mv hU wz, hp.2.2.1, hp.2.2.2⟩)
    (fun m meth c A a g mk Y hp => ⟨hp.1, wtrans hZ Y.warmed, hp.2.1, hV _ Y.warmed⟩) (fun _ _ _ _ _ _ _ _ _ => trivial)
    (fun _ _ _ _ ⟨v, L, h1, h2, h3⟩ => ⟨L, _, _, h3, rfl, rfl, v, h1, h2⟩)
    (fun m meth c A a g mk v t L k n Y hp _ _ ⟨e1, e2, v', e3, e4⟩ => by cases e3; subst e1 e2; exact ⟨L, e4, rfl, rfl, rfl⟩)
theorem own_s0 (s : State) : s.Since s.vm 0 := ⟨State.Warmed39.refl s, fun j q h1 h2 => absurd (Array.getElem?_eq_some_iff.mp h2).1 (Nat.not_lt.mpr h1)⟩
theorem own_wS (hw : ∀ d ∈ tables_1, d.before a0 Z = true) : ∀ a ∈ Bundle.stringAtoms, a.before a0 Z = true := by
  intro d hd
  simp only [Bundle.stringAtoms, List.mem_cons, List.not_mem_nil, or_false] at hd
  rcases hd with rfl | rfl | rfl | rfl | rfl | rfl | rfl
  · exact hw _ (List.mem_of_getElem? (i := 16) rfl)
  · exact hw _ (List.mem_of_getElem? (i := 15) rfl)
  · exact hw _ (List.mem_of_getElem? (i := 29) rfl)
  · exact hw _ (List.mem_of_getElem? (i := 30) rfl)
  · exact hw _ (List.mem_of_getElem? (i := 31) rfl)
  · exact hw _ (List.mem_of_getElem? (i := 32) rfl)
  · exact hw _ (List.mem_of_getElem? (i := 33) rfl)
end Wide
def own_e (x : Int32) : Int32 := ((x.toUInt32 >>> ((16 : Int32) &&& 31).toUInt32).toInt32 &&& (3 : Int32))
def own_len (x : Int32) : Int32 := if (2 : Int32) < own_e x then 2 else own_e x
def own_T (n a b : Int32) : List Int32 := if n = 0 then [] else if n = 1 then [a.toInt8.toInt32] else [a.toInt8.toInt32, b.toInt8.toInt32]
def own_S (x : Int32) : List Int32 := own_T (own_len x) (x &&& (255 : Int32)) (((x.toUInt32 >>> ((8 : Int32) &&& 31).toUInt32).toInt32) &&& (255 : Int32))
theorem own_len3 (x : Int32) : own_len x = 0 ∨ own_len x = 1 ∨ own_len x = 2 := by
  have m : (own_e x).toInt = ((x.toUInt32 >>> ((16 : Int32) &&& 31).toUInt32).toInt32).toInt % (2 ^ 2 : Nat) := c_mask _ 3 2 (by decide) (by decide)
  unfold own_len
  by_cases h : (2 : Int32) < own_e x
  · rw [if_pos h]; exact Or.inr (Or.inr rfl)
  · rw [if_neg h]
    have b : (own_e x).toInt ≤ 2 := own_nltI h
    rcases (by omega : (own_e x).toInt = 0 ∨ (own_e x).toInt = 1 ∨ (own_e x).toInt = 2) with q | q | q
    · exact Or.inl (Int32.toInt_inj.mp q)
    · exact Or.inr (Or.inl (Int32.toInt_inj.mp q))
    · exact Or.inr (Or.inr (Int32.toInt_inj.mp q))
theorem own_r3 {r x : Int32} (h : r = own_len x) : r = 0 ∨ r = 1 ∨ r = 2 := h ▸ own_len3 x
theorem own_b255 (x : Int32) : 0 ≤ (x &&& (255 : Int32)).toInt ∧ (x &&& (255 : Int32)).toInt ≤ 255 := by
  have m : (x &&& (255 : Int32)).toInt = x.toInt % (2 ^ 8 : Nat) := c_mask _ 255 8 (by decide) (by decide)
  omega
theorem own_ch {c : Int32} (h : 0 ≤ c.toInt ∧ c.toInt ≤ 255) : nar .char c = c := by
  have q := c_i2c c
  refine Int32.toInt_inj.mp ?_
  show (c.toUInt32.toUInt16.toUInt32.toInt32).toInt = c.toInt
  omega
theorem own_c {x c : Int32} (h : ((x &&& (255 : Int32)).toUInt32.toUInt16.toUInt32.toInt32) = c) : c = x &&& (255 : Int32) := h ▸ own_ch (own_b255 x)
theorem own_i8 {a b : Int32} (ha : 0 ≤ a.toInt ∧ a.toInt ≤ 255) (hb : 0 ≤ b.toInt ∧ b.toInt ≤ 255) (h : a.toInt8.toInt32 = b.toInt8.toInt32) : a = b := by
  have p := c_i2b a
  have q := c_i2b b
  rw [h] at p
  refine Int32.toInt_inj.mp ?_
  omega
theorem own_iff (x y : Int32) : own_S x = own_S y ↔ own_len x = own_len y ∧ (own_len x < 1 ∨ x &&& (255 : Int32) = y &&& (255 : Int32)) ∧ (¬ own_len x = 2 ∨ (((x.toUInt32 >>> ((8 : Int32) &&& 31).toUInt32).toInt32) &&& (255 : Int32)) = (((y.toUInt32 >>> ((8 : Int32) &&& 31).toUInt32).toInt32) &&& (255 : Int32))) := by
  unfold own_S
  have a1 := own_b255 x
  have a2 := own_b255 y
  have b1 := own_b255 ((x.toUInt32 >>> ((8 : Int32) &&& 31).toUInt32).toInt32)
  have b2 := own_b255 ((y.toUInt32 >>> ((8 : Int32) &&& 31).toUInt32).toInt32)
  have d : ∀ a : Int32, own_T 0 a = fun b => [] := fun _ => rfl
  have d0 : ∀ a b : Int32, own_T 0 a b = [] := fun _ _ => rfl
  have d1 : ∀ a b : Int32, own_T 1 a b = [a.toInt8.toInt32] := fun _ _ => rfl
  have d2 : ∀ a b : Int32, own_T 2 a b = [a.toInt8.toInt32, b.toInt8.toInt32] := fun _ _ => rfl
  rcases own_len3 x with hx | hx | hx <;> rcases own_len3 y with hy | hy | hy <;> rw [hx, hy] <;> simp only [d0, d1, d2, List.cons.injEq, and_true, reduceCtorEq, and_false, false_iff, true_iff, not_and] <;> try (intro q; exact absurd q (by decide))
  · exact ⟨trivial, Or.inl (by decide), Or.inl (by decide)⟩
  · exact ⟨fun q => ⟨trivial, Or.inr (own_i8 a1 a2 q), Or.inl (by decide)⟩, fun q => by rcases q.2.1 with z | z; exact absurd z (by decide); rw [z]⟩
  · exact ⟨fun q => ⟨trivial, Or.inr (own_i8 a1 a2 q.1), Or.inr (own_i8 b1 b2 q.2)⟩, fun q => ⟨by rcases q.2.1 with z | z; exact absurd z (by decide); rw [z], by rcases q.2.2 with z | z; exact (z (by first | rfl | trivial)).elim; rw [z]⟩⟩
theorem own_S0 {x : Int32} (h : (0 : Int32) = own_len x) : own_S x = [] := by unfold own_S; rw [← h]; rfl
theorem own_S1 {x c : Int32} (h : (1 : Int32) = own_len x) (q : c = x &&& (255 : Int32)) : own_S x = [c.toInt8.toInt32] := by unfold own_S; rw [← h, q]; rfl
theorem own_S2 {x c d : Int32} (h : (2 : Int32) = own_len x) (q : c = x &&& (255 : Int32)) (q' : d = (((x.toUInt32 >>> ((8 : Int32) &&& 31).toUInt32).toInt32) &&& (255 : Int32))) : own_S x = [c.toInt8.toInt32, d.toInt8.toInt32] := by unfold own_S; rw [← h, q, q']; rfl
theorem own_q0 {u v : List Int32} (a : (0 : Int32).toInt = (u.length : Int)) (b : (0 : Int32).toInt = (v.length : Int)) : u = v := by
  have a' : (0 : Int) = u.length := a
  have b' : (0 : Int) = v.length := b
  rw [List.eq_nil_of_length_eq_zero (l := u) (by omega), List.eq_nil_of_length_eq_zero (l := v) (by omega)]
theorem own_q1 {u v : List Int32} (a : (1 : Int32).toInt = (u.length : Int)) (b : (1 : Int32).toInt = (v.length : Int)) (h : u.getD (0 : Int32).toNatClampNeg 0 = v.getD (0 : Int32).toNatClampNeg 0) : u = v := by
  have a' : (1 : Int) = u.length := a
  have b' : (1 : Int) = v.length := b
  match u, v, a', b', h with
  | [x], [y], _, _, h => exact congrArg (fun z => [z]) h
theorem own_q2 {u v : List Int32} (a : (2 : Int32).toInt = (u.length : Int)) (b : (2 : Int32).toInt = (v.length : Int)) (h : u.getD (0 : Int32).toNatClampNeg 0 = v.getD (0 : Int32).toNatClampNeg 0) (g : u.getD (1 : Int32).toNatClampNeg 0 = v.getD (1 : Int32).toNatClampNeg 0) : u = v := by
  have a' : (2 : Int) = u.length := a
  have b' : (2 : Int) = v.length := b
  match u, v, a', b', h, g with
  | [x, x'], [y, y'], _, _, h, g =>
    have h' : x = y := h
    have g' : x' = y' := g
    rw [h', g']
theorem own_z8 {Z : State} {h : Heap} {a : Addr} {C n d : String} (F : Fld Z h a C n d (.int (0 : Int32).toInt8.toInt32)) : Fld Z h a C n d (.int (0 : Int32)) := by rw [show (0 : Int32).toInt8.toInt32 = 0 from by decide] at F; exact F
theorem own_fitc {x : Int32} (h : nar .char x = x) : fits .char (.int x) = true := by rw [← h]; exact fits_nar_char x
theorem own_ln {u v : List Int32} {n k : Int32} (a : n.toInt = (u.length : Int)) (b : k.toInt = (v.length : Int)) (h : ¬ n = k) : ¬ u = v := fun q => h (Int32.toInt_inj.mp (by rw [a, b, q]))
theorem own_nosub {Z : State} {a0 : Array Value} (hw : ∀ d ∈ tables_1, d.before a0 Z = true) : ∃ c t, Z.vm.findClass "java/lang/String" = some c ∧ Z.vm.findClass "com/example/coverbill/coverbill/book/Identifier" = some t ∧ Z.vm.assignable c t = false := by
  obtain ⟨t, kt, t1, t2, t3, t4, -⟩ := Cond.instantiable_spec (hw _ (List.mem_of_getElem? (i := 1) rfl))
  obtain ⟨c, hc⟩ := found_sup (hw _ (List.mem_of_getElem? (i := 65) rfl))
  obtain ⟨o, kc, ko, o1, o2, o3, o4, o5, o6, o7⟩ := Cond.superclass_spec hc (hw _ (List.mem_of_getElem? (i := 65) rfl))
  obtain ⟨o', ko', p1, p2, p3, -, -⟩ := Cond.noSuperclass_spec (hw _ (List.mem_of_getElem? (i := 66) rfl))
  cases o1.symm.trans p1
  have e1 : c ≠ t := ids_ne hc t1 (by decide)
  have e3 : o ≠ t := ids_ne o1 t1 (by decide)
  have hi : kt.isInterface = false := by cases hq : kt.isInterface <;> simp [hq] at t4 ⊢
  have s3 : ∀ f, Z.vm.isSubclassAux f o t = false := fun f => by cases f <;> simp [Vm.isSubclassAux, e3, p2, p3]
  have s1 : ∀ f, Z.vm.isSubclassAux f c t = false := fun f => by cases f <;> simp [Vm.isSubclassAux, e1, o2, o4, s3]
  refine ⟨c, t, hc, t1, ?_⟩
  show Z.vm.assignableAux (255 + 1) c t = false
  simp [Vm.assignableAux, e1, o2, t2, o5, t3, hi, Vm.isSubclass, s1]
theorem d3_0 : decode jdk_29_method_69_code 0 = .ok (.iload_n 0, 1) := by decide +kernel
theorem d3_1 : decode jdk_29_method_69_code 1 = .ok (.iload_n 1, 1) := by decide +kernel
theorem d3_2 : decode jdk_29_method_69_code 2 = .ok (.if_icmp .gt 7, 3) := by decide +kernel
theorem d3_5 : decode jdk_29_method_69_code 5 = .ok (.iload_n 0, 1) := by decide +kernel
theorem d3_6 : decode jdk_29_method_69_code 6 = .ok (.goto 4, 3) := by decide +kernel
theorem d3_9 : decode jdk_29_method_69_code 9 = .ok (.iload_n 1, 1) := by decide +kernel
theorem d3_10 : decode jdk_29_method_69_code 10 = .ok (.ireturn, 1) := by decide +kernel
theorem ef_3 (m : MethodId) (x0 : Int32) (x1 : Int32) : entryFrame m #[(.int x0), (.int x1)] 2 = mkF m 0 #[.val (.int x0), .val (.int x1)] [] := by first | (simp [entryFrame, mkF, argsToLocals, Value.category]; done) | rfl
def Q3 (Z : State) (p1 : Int32) (p2 : Int32) (h0 : Heap) (n0 : Nat) (v : Option Value) (h : Heap) (L : List Loc) : Prop := ∃ (r : Int32), v = some (.int r) ∧ (r = if p2 < p1 then p2 else p1) ∧ Fr n0 L ∧ h = h0
set_option maxRecDepth 65536 in
set_option maxHeartbeats 40000000 in
theorem rm3 (l : Launch) (Z : State) (a0 : Array Value) (hw : ∀ d ∈ tables_1, d.before a0 Z = true) (ws : List Jvm.Cond) (p1 : Int32) (p2 : Int32) (h0 : Heap) (n0 : Nat) (Z0 : n0 ≤ h0.size)  :
    MetFree l (⟨"java/lang/Math", "min", "(II)I"⟩ : MethodName) (head1 (Jvm.Cond.code (⟨"java/lang/Math", "min", "(II)I"⟩ : MethodName) jdk_29_method_69_code 2 (some .int) :: ws) ({ frames := 0, cells := 0, slots := 0, locals := 0 } : Room)) (fun a U => a = #[(.int p1), (.int p2)] ∧ Z.Warmed39 U.vm ∧ U.heap = h0) (fun _ _ _ _ _ => True) (fun _ U o U' => ∃ v L, o = .returned v ∧ Q3 Z p1 p2 h0 n0 v U'.heap L ∧ FrameEnd U o U' L ({ frames := 0, cells := 0, slots := 0, locals := 0 } : Room).cells ({ frames := 0, cells := 0, slots := 0, locals := 0 } : Room).slots) := by
  refine MetFree.of_bodySF (Jvm.Free.JP.mathPlain rfl (by decide +kernel)) hisR ?_
  intro p e s m args below meth c s₁ Bd hml0 hP hK
  obtain ⟨rfl, hZ, hh⟩ := hP
  have hx := Bd.exec
  have hby := Bd.bytes
  have hml : c.maxLocals = 2 := hml0
  have hown : s.vm.findClass "java/lang/Math" = some m.cls := findClass_of_methodNamed Bd.named
  have hnm := (name_of_methodNamed Bd.named Bd.method).1
  have X0 : Stand p l e ({ frames := 0, cells := 0, slots := 0, locals := 0 } : Room) s m #[(.int p1), (.int p2)] below meth c s₁ [] 0 0 := Stand.of_body Bd
  have e0 : s₁.heap = h0 := by rw [← hh, Bd.state]; rfl
  have N0 := Fr.nil n0
  suffices G0 : ∀ K : State → Prop, (∀ (n : State) (v : Option Value) (L : List Loc), n.status = .running → Ended n below (.returned v) → Q3 Z p1 p2 h0 n0 v n.heap L → FrameEnd s (.returned v) n L ({ frames := 0, cells := 0, slots := 0, locals := 0 } : Room).cells ({ frames := 0, cells := 0, slots := 0, locals := 0 } : Room).slots → K n) → own_Go p e below K (s₁.setTop (mkF m 0 #[.val (.int p1), .val (.int p2)] [])) by
    obtain ⟨t, st, o, a, b, v, L, e1, q, fe⟩ := G0 (fun n => ∃ o, n.status = .running ∧ Ended n below o ∧ ∃ v L, o = .returned v ∧ Q3 Z p1 p2 h0 n0 v n.heap L ∧ FrameEnd s o n L ({ frames := 0, cells := 0, slots := 0, locals := 0 } : Room).cells ({ frames := 0, cells := 0, slots := 0, locals := 0 } : Room).slots) (fun n v L a b q f => ⟨_, a, b, v, L, rfl, q, f⟩)
    exact ⟨t, o, castTop (ef_3 m p1 p2) st, a, b, v, L, e1, q, fe⟩
  intro K fin
  show own_Go p e below K (s₁.setTop (mkF m 0 #[.val (.int p1), .val (.int p2)] []))
  refine own_st (fun t k => XS.iloadN X0.here hx rfl (hb hby d3_0) rfl k) ?_
  show own_Go p e below K (s₁.setTop (mkF m 1 #[.val (.int p1), .val (.int p2)] [(.int p1)]))
  refine own_st (fun t k => XS.iloadN X0.here hx rfl (hb hby d3_1) rfl k) ?_
  show own_Go p e below K (s₁.setTop (mkF m 2 #[.val (.int p1), .val (.int p2)] [(.int p2), (.int p1)]))
  by_cases hc2 : p2 < p1
  · refine own_st (fun t k => XS.icmpYes X0.here hx rfl (pc0 := 2) (pc' := 9) rfl (hb hby d3_2) rfl (tlt hc2).2.2.1 (by decide) (by decide) k) ?_
    show own_Go p e below K (s₁.setTop (mkF m 9 #[.val (.int p1), .val (.int p2)] []))
    refine own_st (fun t k => XS.iloadN X0.here hx rfl (hb hby d3_9) rfl k) ?_
    show own_Go p e below K (s₁.setTop (mkF m 10 #[.val (.int p1), .val (.int p2)] [(.int p2)]))
    obtain ⟨fs, hr, hrun, hended, hW, hsame⟩ := X0.leave (v := some (.int p2)) (fun h => by rw [Bd.returns] at h; cases h)
    refine ⟨_, retI X0 hx Bd.returns (hb hby d3_10) hr, fin _ _ _ hrun hended ?_ ⟨⟨_, rfl⟩, hW, hsame.mono (by decide) (by decide)⟩⟩
    show Q3 Z p1 p2 h0 n0 _ s₁.heap _
    rw [e0]
    exact ⟨_, rfl, (if_pos hc2).symm, N0, rfl⟩
  refine own_st (fun t k => XS.icmpNo X0.here hx rfl (hb hby d3_2) rfl (flt hc2).2.2.1 k) ?_
  show own_Go p e below K (s₁.setTop (mkF m 5 #[.val (.int p1), .val (.int p2)] []))
  refine own_st (fun t k => XS.iloadN X0.here hx rfl (hb hby d3_5) rfl k) ?_
  show own_Go p e below K (s₁.setTop (mkF m 6 #[.val (.int p1), .val (.int p2)] [(.int p1)]))
  refine own_st (fun t k => XS.goto X0.here hx rfl (pc0 := 6) (pc' := 10) rfl (hb hby d3_6) (by decide) (by decide) k) ?_
  show own_Go p e below K (s₁.setTop (mkF m 10 #[.val (.int p1), .val (.int p2)] [(.int p1)]))
  obtain ⟨fs, hr, hrun, hended, hW, hsame⟩ := X0.leave (v := some (.int p1)) (fun h => by rw [Bd.returns] at h; cases h)
  refine ⟨_, retI X0 hx Bd.returns (hb hby d3_10) hr, fin _ _ _ hrun hended ?_ ⟨⟨_, rfl⟩, hW, hsame.mono (by decide) (by decide)⟩⟩
  show Q3 Z p1 p2 h0 n0 _ s₁.heap _
  rw [e0]
  exact ⟨_, rfl, (if_neg hc2).symm, N0, rfl⟩
theorem d2_0 : decode method_2_code 0 = .ok (.iload_n 0, 1) := by decide +kernel
theorem d2_1 : decode method_2_code 1 = .ok (.bipush 16, 2) := by decide +kernel
theorem d2_3 : decode method_2_code 3 = .ok (.iushr, 1) := by decide +kernel
theorem d2_4 : decode method_2_code 4 = .ok (.iconst 3, 1) := by decide +kernel
theorem d2_5 : decode method_2_code 5 = .ok (.iand, 1) := by decide +kernel
theorem d2_6 : decode method_2_code 6 = .ok (.iconst 2, 1) := by decide +kernel
theorem d2_7 : decode method_2_code 7 = .ok (.invokestatic 7, 3) := by decide +kernel
theorem d2_10 : decode method_2_code 10 = .ok (.ireturn, 1) := by decide +kernel
theorem pn_2 : plainName "com/example/coverbill/coverbill/book/IdentifierEqualsPinLaw" = true := by first | (simp [plainName, overriddenIn]; done) | decide +kernel
theorem pd_2_2 : parseMethodDescriptor "(II)I" = some ⟨[.int, .int], some .int⟩ := by decide +kernel
theorem ef_2 (m : MethodId) (x0 : Int32) : entryFrame m #[(.int x0)] 1 = mkF m 0 #[.val (.int x0)] [] := by first | (simp [entryFrame, mkF, argsToLocals, Value.category]; done) | rfl
def Q2 (Z : State) (p1 : Int32) (h0 : Heap) (n0 : Nat) (v : Option Value) (h : Heap) (L : List Loc) : Prop := ∃ (r : Int32), v = some (.int r) ∧ (r = own_len p1) ∧ Fr n0 L ∧ h = h0
set_option maxRecDepth 65536 in
set_option maxHeartbeats 40000000 in
theorem rm2 (l : Launch) (Z : State) (a0 : Array Value) (hw : ∀ d ∈ tables_1, d.before a0 Z = true) (ws : List Jvm.Cond) (p1 : Int32) (h0 : Heap) (n0 : Nat) (Z0 : n0 ≤ h0.size)  :
    MetFree l (⟨"com/example/coverbill/coverbill/book/IdentifierEqualsPinLaw", "len", "(I)I"⟩ : MethodName) (head1 (Jvm.Cond.code (⟨"com/example/coverbill/coverbill/book/IdentifierEqualsPinLaw", "len", "(I)I"⟩ : MethodName) method_2_code 1 (some .int) :: ws) ({ frames := 1, cells := 0, slots := 0, locals := 13 } : Room)) (fun a U => a = #[(.int p1)] ∧ Z.Warmed39 U.vm ∧ U.heap = h0) (fun _ _ _ _ _ => True) (fun _ U o U' => ∃ v L, o = .returned v ∧ Q2 Z p1 h0 n0 v U'.heap L ∧ FrameEnd U o U' L ({ frames := 1, cells := 0, slots := 0, locals := 13 } : Room).cells ({ frames := 1, cells := 0, slots := 0, locals := 13 } : Room).slots) := by
  refine MetFree.of_bodySF (plainFor_of_name pn_2) hisR ?_
  intro p e s m args below meth c s₁ Bd hml0 hP hK
  obtain ⟨rfl, hZ, hh⟩ := hP
  have hx := Bd.exec
  have hby := Bd.bytes
  have hml : c.maxLocals = 1 := hml0
  have hown : s.vm.findClass "com/example/coverbill/coverbill/book/IdentifierEqualsPinLaw" = some m.cls := findClass_of_methodNamed Bd.named
  have hnm := (name_of_methodNamed Bd.named Bd.method).1
  have X0 : Stand p l e ({ frames := 1, cells := 0, slots := 0, locals := 13 } : Room) s m #[(.int p1)] below meth c s₁ [] 0 0 := Stand.of_body Bd
  have e0 : s₁.heap = h0 := by rw [← hh, Bd.state]; rfl
  have N0 := Fr.nil n0
  suffices G0 : ∀ K : State → Prop, (∀ (n : State) (v : Option Value) (L : List Loc), n.status = .running → Ended n below (.returned v) → Q2 Z p1 h0 n0 v n.heap L → FrameEnd s (.returned v) n L ({ frames := 1, cells := 0, slots := 0, locals := 13 } : Room).cells ({ frames := 1, cells := 0, slots := 0, locals := 13 } : Room).slots → K n) → own_Go p e below K (s₁.setTop (mkF m 0 #[.val (.int p1)] [])) by
    obtain ⟨t, st, o, a, b, v, L, e1, q, fe⟩ := G0 (fun n => ∃ o, n.status = .running ∧ Ended n below o ∧ ∃ v L, o = .returned v ∧ Q2 Z p1 h0 n0 v n.heap L ∧ FrameEnd s o n L ({ frames := 1, cells := 0, slots := 0, locals := 13 } : Room).cells ({ frames := 1, cells := 0, slots := 0, locals := 13 } : Room).slots) (fun n v L a b q f => ⟨_, a, b, v, L, rfl, q, f⟩)
    exact ⟨t, o, castTop (ef_2 m p1) st, a, b, v, L, e1, q, fe⟩
  intro K fin
  show own_Go p e below K (s₁.setTop (mkF m 0 #[.val (.int p1)] []))
  refine own_st (fun t k => XS.iloadN X0.here hx rfl (hb hby d2_0) rfl k) ?_
  show own_Go p e below K (s₁.setTop (mkF m 1 #[.val (.int p1)] [(.int p1)]))
  refine own_st (fun t k => XS.bipush X0.here hx rfl (hb hby d2_1) k) ?_
  show own_Go p e below K (s₁.setTop (mkF m 3 #[.val (.int p1)] [(.int (16 : Int32)), (.int p1)]))
  refine own_st (fun t k => XS.iushr X0.here hx rfl (hb hby d2_3) rfl k) ?_
  show own_Go p e below K (s₁.setTop (mkF m 4 #[.val (.int p1)] [(.int ((p1.toUInt32 >>> ((16 : Int32) &&& 31).toUInt32).toInt32))]))
  refine own_st (fun t k => XS.iconst X0.here hx rfl (hb hby d2_4) k) ?_
  show own_Go p e below K (s₁.setTop (mkF m 5 #[.val (.int p1)] [(.int (3 : Int32)), (.int ((p1.toUInt32 >>> ((16 : Int32) &&& 31).toUInt32).toInt32))]))
  refine own_st (fun t k => XS.iand X0.here hx rfl (hb hby d2_5) rfl k) ?_
  show own_Go p e below K (s₁.setTop (mkF m 6 #[.val (.int p1)] [(.int (((p1.toUInt32 >>> ((16 : Int32) &&& 31).toUInt32).toInt32) &&& (3 : Int32)))]))
  refine own_st (fun t k => XS.iconst X0.here hx rfl (hb hby d2_6) k) ?_
  show own_Go p e below K (s₁.setTop (mkF m 7 #[.val (.int p1)] [(.int (2 : Int32)), (.int (((p1.toUInt32 >>> ((16 : Int32) &&& 31).toUInt32).toInt32) &&& (3 : Int32)))]))
  obtain ⟨_, _, ⟨T1, L1, k1, n1⟩, -, X1, ⟨Lc1, hQ1, l1, y1, z1⟩, st1⟩ := Jvm.LawKit.callS X0 hx (y := (⟨"java/lang/Math", "min", "(II)I"⟩ : MethodName)) hown (mvT hZ (hw _ (List.mem_of_getElem? (i := 10) rfl))) (mvT hZ (hw _ (List.mem_of_getElem? (i := 11) rfl))) (mvT hZ (hw _ (List.mem_of_getElem? (i := 12) rfl))) (mvT hZ (hw _ (List.mem_of_getElem? (i := 13) rfl))) (by decide) (backOf (W := 0) (rm3 l Z a0 hw [] (((p1.toUInt32 >>> ((16 : Int32) &&& 31).toUInt32).toInt32) &&& (3 : Int32)) (2 : Int32) h0 n0 Z0) hZ (hw _ (List.mem_of_getElem? (i := 13) rfl)) (hw _ (List.mem_of_getElem? (i := 12) rfl)) (by decide) (by decide)) (g := (mkF m 7 #[.val (.int p1)] [(.int (2 : Int32)), (.int (((p1.toUInt32 >>> ((16 : Int32) &&& 31).toUInt32).toInt32) &&& (3 : Int32)))])) rfl (by rw [hml]; rfl) (argsL := [(.int (((p1.toUInt32 >>> ((16 : Int32) &&& 31).toUInt32).toInt32) &&& (3 : Int32))), (.int (2 : Int32))]) (rest := []) (lenOf pd_2_2 rfl) rfl (by show 2 * 0 + _ ≤ _; exact Nat.le_of_eq rfl) (hb hby d2_7) (fun _ _ => ⟨rfl, e0, (by decide : 0 + 0 ≤ _), (by decide : 0 + 0 ≤ _)⟩)
  dsimp only [Pt.U, Pt.locs, Pt.cells, Pt.slots] at X1 l1 y1 z1 st1 hQ1
  obtain ⟨r1, rfl, hr1, N1q, e1⟩ := hQ1
  have N1 : Fr n0 L1 := by rw [l1]; exact Fr.app N0 N1q
  clear l1
  have y1' : k1 = 0 := y1
  have z1' : n1 = 0 := z1
  clear y1 z1
  subst y1' z1'
  refine own_st st1 ?_
  show own_Go p e below K (T1.setTop (mkF m 10 #[.val (.int p1)] [(.int r1)]))
  try clear st1 N1q
  obtain ⟨fs, hr, hrun, hended, hW, hsame⟩ := X1.leave (v := some (.int r1)) (fun h => by rw [Bd.returns] at h; cases h)
  refine ⟨_, retI X1 hx Bd.returns (hb hby d2_10) hr, fin _ _ _ hrun hended ?_ ⟨⟨_, rfl⟩, hW, hsame.mono (by decide) (by decide)⟩⟩
  show Q2 Z p1 h0 n0 _ T1.heap _
  rw [e1]
  exact ⟨_, rfl, (hr1), N1, rfl⟩
theorem d13_0 : decode jdk_52_method_21_code 0 = .ok (.iconst 0, 1) := by decide +kernel
theorem d13_1 : decode jdk_52_method_21_code 1 = .ok (.istore 5, 2) := by decide +kernel
theorem d13_3 : decode jdk_52_method_21_code 3 = .ok (.iload 5, 2) := by decide +kernel
theorem d13_5 : decode jdk_52_method_21_code 5 = .ok (.iload 4, 2) := by decide +kernel
theorem d13_7 : decode jdk_52_method_21_code 7 = .ok (.if_icmp .ge 37, 3) := by decide +kernel
theorem d13_10 : decode jdk_52_method_21_code 10 = .ok (.aload_n 0, 1) := by decide +kernel
theorem d13_11 : decode jdk_52_method_21_code 11 = .ok (.iload_n 1, 1) := by decide +kernel
theorem d13_12 : decode jdk_52_method_21_code 12 = .ok (.caload, 1) := by decide +kernel
theorem d13_13 : decode jdk_52_method_21_code 13 = .ok (.istore 6, 2) := by decide +kernel
theorem d13_15 : decode jdk_52_method_21_code 15 = .ok (.iload 6, 2) := by decide +kernel
theorem d13_17 : decode jdk_52_method_21_code 17 = .ok (.sipush 255, 3) := by decide +kernel
theorem d13_20 : decode jdk_52_method_21_code 20 = .ok (.if_icmp .le 6, 3) := by decide +kernel
theorem d13_26 : decode jdk_52_method_21_code 26 = .ok (.aload_n 2, 1) := by decide +kernel
theorem d13_27 : decode jdk_52_method_21_code 27 = .ok (.iload_n 3, 1) := by decide +kernel
theorem d13_28 : decode jdk_52_method_21_code 28 = .ok (.iload 6, 2) := by decide +kernel
theorem d13_30 : decode jdk_52_method_21_code 30 = .ok (.i2b, 1) := by decide +kernel
theorem d13_31 : decode jdk_52_method_21_code 31 = .ok (.bastore, 1) := by decide +kernel
theorem d13_32 : decode jdk_52_method_21_code 32 = .ok (.iinc 1 1, 3) := by decide +kernel
theorem d13_35 : decode jdk_52_method_21_code 35 = .ok (.iinc 3 1, 3) := by decide +kernel
theorem d13_38 : decode jdk_52_method_21_code 38 = .ok (.iinc 5 1, 3) := by decide +kernel
theorem d13_41 : decode jdk_52_method_21_code 41 = .ok (.goto (-38), 3) := by decide +kernel
theorem d13_44 : decode jdk_52_method_21_code 44 = .ok (.iload 4, 2) := by decide +kernel
theorem d13_46 : decode jdk_52_method_21_code 46 = .ok (.ireturn, 1) := by decide +kernel
theorem pn_13 : plainName "java/lang/StringUTF16" = true := by first | (simp [plainName, overriddenIn]; done) | decide +kernel
theorem ef_13 (m : MethodId) (x0 : Addr) (x1 : Int32) (x2 : Addr) (x3 : Int32) (x4 : Int32) : entryFrame m #[(.ref x0), (.int x1), (.ref x2), (.int x3), (.int x4)] 7 = mkF m 0 #[.val (.ref x0), .val (.int x1), .val (.ref x2), .val (.int x3), .val (.int x4), .unset, .unset] [] := by first | (simp [entryFrame, mkF, argsToLocals, Value.category]; done) | rfl
def Q13 (Z : State) (a1 : Addr) (a3 : Addr) (c0 : Int32) (c1 : Int32) (kx1 : ClassId) (kx3 : ClassId) (h0 : Heap) (n0 : Nat) (v : Option Value) (h : Heap) (L : List Loc) : Prop := ∃ (r : Int32), v = some (.int r) ∧ (r = (2 : Int32)) ∧ Fr n0 L ∧ Keep h0 h [a3] ∧ (Arv Z h a3 kx3 .byte (2 : Int32) [(.int (c0.toInt8.toInt32)), (.int (c1.toInt8.toInt32))] (.int (0 : Int32)))
set_option maxRecDepth 65536 in
set_option maxHeartbeats 40000000 in
theorem rm13 (l : Launch) (Z : State) (a0 : Array Value) (hw : ∀ d ∈ tables_1, d.before a0 Z = true) (ws : List Jvm.Cond) (a1 : Addr) (a3 : Addr) (c0 : Int32) (c1 : Int32) (kx1 : ClassId) (kx3 : ClassId) (h0 : Heap) (n0 : Nat) (Z0 : n0 ≤ h0.size) (g_a3 : n0 ≤ a3) (ne_a1_a3 : a1 ≠ a3) (P0 : Arv Z h0 a1 kx1 .char (2 : Int32) [(.int c0), (.int c1)] (.int (0 : Int32))) (P1 : Arv Z h0 a3 kx3 .byte (2 : Int32) [(.int (0 : Int32)), (.int (0 : Int32))] (.int (0 : Int32))) (hb0 : 0 ≤ c0.toInt ∧ c0.toInt ≤ 255) (hb1 : 0 ≤ c1.toInt ∧ c1.toInt ≤ 255) :
    MetFree l (⟨"java/lang/StringUTF16", "compress", "([CI[BII)I"⟩ : MethodName) (head1 (Jvm.Cond.code (⟨"java/lang/StringUTF16", "compress", "([CI[BII)I"⟩ : MethodName) jdk_52_method_21_code 7 (some .int) :: ws) ({ frames := 0, cells := 0, slots := 0, locals := 0 } : Room)) (fun a U => a = #[(.ref a1), (.int (0 : Int32)), (.ref a3), (.int (0 : Int32)), (.int (2 : Int32))] ∧ Z.Warmed39 U.vm ∧ U.heap = h0) (fun _ _ _ _ _ => True) (fun _ U o U' => ∃ v L, o = .returned v ∧ Q13 Z a1 a3 c0 c1 kx1 kx3 h0 n0 v U'.heap L ∧ FrameEnd U o U' L ({ frames := 0, cells := 0, slots := 0, locals := 0 } : Room).cells ({ frames := 0, cells := 0, slots := 0, locals := 0 } : Room).slots) := by
  refine MetFree.of_bodySF (plainFor_of_name pn_13) hisR ?_
  intro p e s m args below meth c s₁ Bd hml0 hP hK
  obtain ⟨rfl, hZ, hh⟩ := hP
  have hx := Bd.exec
  have hby := Bd.bytes
  have hml : c.maxLocals = 7 := hml0
  have hown : s.vm.findClass "java/lang/StringUTF16" = some m.cls := findClass_of_methodNamed Bd.named
  have hnm := (name_of_methodNamed Bd.named Bd.method).1
  have X0 : Stand p l e ({ frames := 0, cells := 0, slots := 0, locals := 0 } : Room) s m #[(.ref a1), (.int (0 : Int32)), (.ref a3), (.int (0 : Int32)), (.int (2 : Int32))] below meth c s₁ [] 0 0 := Stand.of_body Bd
  have e0 : s₁.heap = h0 := by rw [← hh, Bd.state]; rfl
  have N0 := Fr.nil n0
  suffices G0 : ∀ K : State → Prop, (∀ (n : State) (v : Option Value) (L : List Loc), n.status = .running → Ended n below (.returned v) → Q13 Z a1 a3 c0 c1 kx1 kx3 h0 n0 v n.heap L → FrameEnd s (.returned v) n L ({ frames := 0, cells := 0, slots := 0, locals := 0 } : Room).cells ({ frames := 0, cells := 0, slots := 0, locals := 0 } : Room).slots → K n) → own_Go p e below K (s₁.setTop (mkF m 0 #[.val (.ref a1), .val (.int (0 : Int32)), .val (.ref a3), .val (.int (0 : Int32)), .val (.int (2 : Int32)), .unset, .unset] [])) by
    obtain ⟨t, st, o, a, b, v, L, e1, q, fe⟩ := G0 (fun n => ∃ o, n.status = .running ∧ Ended n below o ∧ ∃ v L, o = .returned v ∧ Q13 Z a1 a3 c0 c1 kx1 kx3 h0 n0 v n.heap L ∧ FrameEnd s o n L ({ frames := 0, cells := 0, slots := 0, locals := 0 } : Room).cells ({ frames := 0, cells := 0, slots := 0, locals := 0 } : Room).slots) (fun n v L a b q f => ⟨_, a, b, v, L, rfl, q, f⟩)
    exact ⟨t, o, castTop (ef_13 m a1 (0 : Int32) a3 (0 : Int32) (2 : Int32)) st, a, b, v, L, e1, q, fe⟩
  intro K fin
  show own_Go p e below K (s₁.setTop (mkF m 0 #[.val (.ref a1), .val (.int (0 : Int32)), .val (.ref a3), .val (.int (0 : Int32)), .val (.int (2 : Int32)), .unset, .unset] []))
  refine own_st (fun t k => XS.iconst X0.here hx rfl (hb hby d13_0) k) ?_
  show own_Go p e below K (s₁.setTop (mkF m 1 #[.val (.ref a1), .val (.int (0 : Int32)), .val (.ref a3), .val (.int (0 : Int32)), .val (.int (2 : Int32)), .unset, .unset] [(.int (0 : Int32))]))
  refine own_st (fun t k => XS.istore X0.here hx rfl (hb hby d13_1) rfl (l' := #[.val (.ref a1), .val (.int (0 : Int32)), .val (.ref a3), .val (.int (0 : Int32)), .val (.int (2 : Int32)), .val (.int (0 : Int32)), .unset]) rfl k) ?_
  show own_Go p e below K (s₁.setTop (mkF m 3 #[.val (.ref a1), .val (.int (0 : Int32)), .val (.ref a3), .val (.int (0 : Int32)), .val (.int (2 : Int32)), .val (.int (0 : Int32)), .unset] []))
  refine own_st (fun t k => XS.iload X0.here hx rfl (hb hby d13_3) rfl k) ?_
  show own_Go p e below K (s₁.setTop (mkF m 5 #[.val (.ref a1), .val (.int (0 : Int32)), .val (.ref a3), .val (.int (0 : Int32)), .val (.int (2 : Int32)), .val (.int (0 : Int32)), .unset] [(.int (0 : Int32))]))
  refine own_st (fun t k => XS.iload X0.here hx rfl (hb hby d13_5) rfl k) ?_
  show own_Go p e below K (s₁.setTop (mkF m 7 #[.val (.ref a1), .val (.int (0 : Int32)), .val (.ref a3), .val (.int (0 : Int32)), .val (.int (2 : Int32)), .val (.int (0 : Int32)), .unset] [(.int (2 : Int32)), (.int (0 : Int32))]))
  refine own_st (fun t k => XS.icmpNo X0.here hx rfl (hb hby d13_7) rfl (tlt (by decide : (0 : Int32) < (2 : Int32))).2.1 k) ?_
  show own_Go p e below K (s₁.setTop (mkF m 10 #[.val (.ref a1), .val (.int (0 : Int32)), .val (.ref a3), .val (.int (0 : Int32)), .val (.int (2 : Int32)), .val (.int (0 : Int32)), .unset] []))
  refine own_st (fun t k => XS.aloadN X0.here hx rfl (hb hby d13_10) rfl rfl k) ?_
  show own_Go p e below K (s₁.setTop (mkF m 11 #[.val (.ref a1), .val (.int (0 : Int32)), .val (.ref a3), .val (.int (0 : Int32)), .val (.int (2 : Int32)), .val (.int (0 : Int32)), .unset] [(.ref a1)]))
  refine own_st (fun t k => XS.iloadN X0.here hx rfl (hb hby d13_11) rfl k) ?_
  show own_Go p e below K (s₁.setTop (mkF m 12 #[.val (.ref a1), .val (.int (0 : Int32)), .val (.ref a3), .val (.int (0 : Int32)), .val (.int (2 : Int32)), .val (.int (0 : Int32)), .unset] [(.int (0 : Int32)), (.ref a1)]))
  obtain ⟨cl1, Ar1, qa1, Sa1, Ma1, Ha1, Ga1⟩ := id P0
  have hin1 : ¬ ((0 : Int32) < 0 ∨ cl1.slots.size ≤ ((0 : Int32)).toNatClampNeg) := inb_of Sa1 ⟨by decide, by decide⟩
  refine own_st (X0.caload hx (j := (0 : Int32)) (v := (.int c0)) (own_hat e0 Ar1.1) (State.isArrayOf_alike hZ.alike Ar1.2.1) Ar1.2.2 hin1 (Has.at Ha1 hin1 rfl) (g := (mkF m 12 #[.val (.ref a1), .val (.int (0 : Int32)), .val (.ref a3), .val (.int (0 : Int32)), .val (.int (2 : Int32)), .val (.int (0 : Int32)), .unset] [(.int (0 : Int32)), (.ref a1)])) rfl rfl (hb hby d13_12)) ?_
  show own_Go p e below K (s₁.setTop (mkF m 13 #[.val (.ref a1), .val (.int (0 : Int32)), .val (.ref a3), .val (.int (0 : Int32)), .val (.int (2 : Int32)), .val (.int (0 : Int32)), .unset] [(.int c0)]))
  refine own_st (fun t k => XS.istore X0.here hx rfl (hb hby d13_13) rfl (l' := #[.val (.ref a1), .val (.int (0 : Int32)), .val (.ref a3), .val (.int (0 : Int32)), .val (.int (2 : Int32)), .val (.int (0 : Int32)), .val (.int c0)]) rfl k) ?_
  show own_Go p e below K (s₁.setTop (mkF m 15 #[.val (.ref a1), .val (.int (0 : Int32)), .val (.ref a3), .val (.int (0 : Int32)), .val (.int (2 : Int32)), .val (.int (0 : Int32)), .val (.int c0)] []))
  refine own_st (fun t k => XS.iload X0.here hx rfl (hb hby d13_15) rfl k) ?_
  show own_Go p e below K (s₁.setTop (mkF m 17 #[.val (.ref a1), .val (.int (0 : Int32)), .val (.ref a3), .val (.int (0 : Int32)), .val (.int (2 : Int32)), .val (.int (0 : Int32)), .val (.int c0)] [(.int c0)]))
  refine own_st (fun t k => XS.sipush X0.here hx rfl (hb hby d13_17) k) ?_
  show own_Go p e below K (s₁.setTop (mkF m 20 #[.val (.ref a1), .val (.int (0 : Int32)), .val (.ref a3), .val (.int (0 : Int32)), .val (.int (2 : Int32)), .val (.int (0 : Int32)), .val (.int c0)] [(.int (255 : Int32)), (.int c0)]))
  refine own_st (fun t k => XS.icmpYes X0.here hx rfl (pc0 := 20) (pc' := 26) rfl (hb hby d13_20) rfl (flt (own_nlt (show c0.toInt ≤ (255 : Int32).toInt from hb0.2) : ¬ ((255 : Int32) < c0))).2.2.2 (by decide) (by decide) k) ?_
  show own_Go p e below K (s₁.setTop (mkF m 26 #[.val (.ref a1), .val (.int (0 : Int32)), .val (.ref a3), .val (.int (0 : Int32)), .val (.int (2 : Int32)), .val (.int (0 : Int32)), .val (.int c0)] []))
  refine own_st (fun t k => XS.aloadN X0.here hx rfl (hb hby d13_26) rfl rfl k) ?_
  show own_Go p e below K (s₁.setTop (mkF m 27 #[.val (.ref a1), .val (.int (0 : Int32)), .val (.ref a3), .val (.int (0 : Int32)), .val (.int (2 : Int32)), .val (.int (0 : Int32)), .val (.int c0)] [(.ref a3)]))
  refine own_st (fun t k => XS.iloadN X0.here hx rfl (hb hby d13_27) rfl k) ?_
  show own_Go p e below K (s₁.setTop (mkF m 28 #[.val (.ref a1), .val (.int (0 : Int32)), .val (.ref a3), .val (.int (0 : Int32)), .val (.int (2 : Int32)), .val (.int (0 : Int32)), .val (.int c0)] [(.int (0 : Int32)), (.ref a3)]))
  refine own_st (fun t k => XS.iload X0.here hx rfl (hb hby d13_28) rfl k) ?_
  show own_Go p e below K (s₁.setTop (mkF m 30 #[.val (.ref a1), .val (.int (0 : Int32)), .val (.ref a3), .val (.int (0 : Int32)), .val (.int (2 : Int32)), .val (.int (0 : Int32)), .val (.int c0)] [(.int c0), (.int (0 : Int32)), (.ref a3)]))
  refine own_st (fun t k => XS.i2b X0.here hx rfl (hb hby d13_30) rfl k) ?_
  show own_Go p e below K (s₁.setTop (mkF m 31 #[.val (.ref a1), .val (.int (0 : Int32)), .val (.ref a3), .val (.int (0 : Int32)), .val (.int (2 : Int32)), .val (.int (0 : Int32)), .val (.int c0)] [(.int (c0.toInt8.toInt32)), (.int (0 : Int32)), (.ref a3)]))
  obtain ⟨cl2, Ar2, qa2, Sa2, Ma2, Ha2, Ga2⟩ := id P1
  have hin2 : ¬ ((0 : Int32) < 0 ∨ cl2.slots.size ≤ ((0 : Int32)).toNatClampNeg) := inb_of Sa2 ⟨by decide, by decide⟩
  obtain ⟨T3, h3, X3, e3, W3, st3⟩ := stB X0 hx hZ e0 Ar2 (j := (0 : Int32)) hin2 (g := (mkF m 31 #[.val (.ref a1), .val (.int (0 : Int32)), .val (.ref a3), .val (.int (0 : Int32)), .val (.int (2 : Int32)), .val (.int (0 : Int32)), .val (.int c0)] [(.int (c0.toInt8.toInt32)), (.int (0 : Int32)), (.ref a3)])) rfl rfl (hb hby d13_31)
  have id3 : nar .byte (c0.toInt8.toInt32) = (c0.toInt8.toInt32) := (own_nb _)
  rw [id3] at W3
  have V3 : Arv Z h3 a3 kx3 .byte (2 : Int32) [(.int (c0.toInt8.toInt32)), (.int (0 : Int32))] (.int (0 : Int32)) := Arv.set Ar2 qa2 Sa2 Ma2 Ha2 Ga2 (own_fit id3) W3 0 rfl (Nat.le_of_ble_eq_true rfl)
  have f4 : Arv Z h3 a1 kx1 .char (2 : Int32) [(.int c0), (.int c1)] (.int (0 : Int32)) := P0.other W3 ne_a1_a3
  have N3 := Fr.snoc X3 N0 g_a3
  have Z3 : n0 ≤ h3.size := Nat.le_trans Z0 (Keep.of_wr W3).1
  have K3 : Keep h0 h3 [a3] := (Keep.refl h0 [a3]).wr W3 (Or.inl (List.mem_of_getElem? (i := 0) rfl))
  refine own_st st3 ?_
  show own_Go p e below K (T3.setTop (mkF m 32 #[.val (.ref a1), .val (.int (0 : Int32)), .val (.ref a3), .val (.int (0 : Int32)), .val (.int (2 : Int32)), .val (.int (0 : Int32)), .val (.int c0)] []))
  try clear st3 P0
  refine own_st (fun t k => XS.iinc X3.here hx rfl (hb hby d13_32) rfl (l' := #[.val (.ref a1), .val (.int ((0 : Int32) + (1 : Int32))), .val (.ref a3), .val (.int (0 : Int32)), .val (.int (2 : Int32)), .val (.int (0 : Int32)), .val (.int c0)]) rfl k) ?_
  show own_Go p e below K (T3.setTop (mkF m 35 #[.val (.ref a1), .val (.int ((0 : Int32) + (1 : Int32))), .val (.ref a3), .val (.int (0 : Int32)), .val (.int (2 : Int32)), .val (.int (0 : Int32)), .val (.int c0)] []))
  rw [show ((0 : Int32) + (1 : Int32)) = (1 : Int32) from by decide]
  show own_Go p e below K (T3.setTop (mkF m 35 #[.val (.ref a1), .val (.int (1 : Int32)), .val (.ref a3), .val (.int (0 : Int32)), .val (.int (2 : Int32)), .val (.int (0 : Int32)), .val (.int c0)] []))
  refine own_st (fun t k => XS.iinc X3.here hx rfl (hb hby d13_35) rfl (l' := #[.val (.ref a1), .val (.int (1 : Int32)), .val (.ref a3), .val (.int ((0 : Int32) + (1 : Int32))), .val (.int (2 : Int32)), .val (.int (0 : Int32)), .val (.int c0)]) rfl k) ?_
  show own_Go p e below K (T3.setTop (mkF m 38 #[.val (.ref a1), .val (.int (1 : Int32)), .val (.ref a3), .val (.int ((0 : Int32) + (1 : Int32))), .val (.int (2 : Int32)), .val (.int (0 : Int32)), .val (.int c0)] []))
  rw [show ((0 : Int32) + (1 : Int32)) = (1 : Int32) from by decide]
  show own_Go p e below K (T3.setTop (mkF m 38 #[.val (.ref a1), .val (.int (1 : Int32)), .val (.ref a3), .val (.int (1 : Int32)), .val (.int (2 : Int32)), .val (.int (0 : Int32)), .val (.int c0)] []))
  refine own_st (fun t k => XS.iinc X3.here hx rfl (hb hby d13_38) rfl (l' := #[.val (.ref a1), .val (.int (1 : Int32)), .val (.ref a3), .val (.int (1 : Int32)), .val (.int (2 : Int32)), .val (.int ((0 : Int32) + (1 : Int32))), .val (.int c0)]) rfl k) ?_
  show own_Go p e below K (T3.setTop (mkF m 41 #[.val (.ref a1), .val (.int (1 : Int32)), .val (.ref a3), .val (.int (1 : Int32)), .val (.int (2 : Int32)), .val (.int ((0 : Int32) + (1 : Int32))), .val (.int c0)] []))
  rw [show ((0 : Int32) + (1 : Int32)) = (1 : Int32) from by decide]
  show own_Go p e below K (T3.setTop (mkF m 41 #[.val (.ref a1), .val (.int (1 : Int32)), .val (.ref a3), .val (.int (1 : Int32)), .val (.int (2 : Int32)), .val (.int (1 : Int32)), .val (.int c0)] []))
  refine own_st (fun t k => XS.goto X3.here hx rfl (pc0 := 41) (pc' := 3) rfl (hb hby d13_41) (by decide) (by decide) k) ?_
  show own_Go p e below K (T3.setTop (mkF m 3 #[.val (.ref a1), .val (.int (1 : Int32)), .val (.ref a3), .val (.int (1 : Int32)), .val (.int (2 : Int32)), .val (.int (1 : Int32)), .val (.int c0)] []))
  refine own_st (fun t k => XS.iload X3.here hx rfl (hb hby d13_3) rfl k) ?_
  show own_Go p e below K (T3.setTop (mkF m 5 #[.val (.ref a1), .val (.int (1 : Int32)), .val (.ref a3), .val (.int (1 : Int32)), .val (.int (2 : Int32)), .val (.int (1 : Int32)), .val (.int c0)] [(.int (1 : Int32))]))
  refine own_st (fun t k => XS.iload X3.here hx rfl (hb hby d13_5) rfl k) ?_
  show own_Go p e below K (T3.setTop (mkF m 7 #[.val (.ref a1), .val (.int (1 : Int32)), .val (.ref a3), .val (.int (1 : Int32)), .val (.int (2 : Int32)), .val (.int (1 : Int32)), .val (.int c0)] [(.int (2 : Int32)), (.int (1 : Int32))]))
  refine own_st (fun t k => XS.icmpNo X3.here hx rfl (hb hby d13_7) rfl (tlt (by decide : (1 : Int32) < (2 : Int32))).2.1 k) ?_
  show own_Go p e below K (T3.setTop (mkF m 10 #[.val (.ref a1), .val (.int (1 : Int32)), .val (.ref a3), .val (.int (1 : Int32)), .val (.int (2 : Int32)), .val (.int (1 : Int32)), .val (.int c0)] []))
  refine own_st (fun t k => XS.aloadN X3.here hx rfl (hb hby d13_10) rfl rfl k) ?_
  show own_Go p e below K (T3.setTop (mkF m 11 #[.val (.ref a1), .val (.int (1 : Int32)), .val (.ref a3), .val (.int (1 : Int32)), .val (.int (2 : Int32)), .val (.int (1 : Int32)), .val (.int c0)] [(.ref a1)]))
  refine own_st (fun t k => XS.iloadN X3.here hx rfl (hb hby d13_11) rfl k) ?_
  show own_Go p e below K (T3.setTop (mkF m 12 #[.val (.ref a1), .val (.int (1 : Int32)), .val (.ref a3), .val (.int (1 : Int32)), .val (.int (2 : Int32)), .val (.int (1 : Int32)), .val (.int c0)] [(.int (1 : Int32)), (.ref a1)]))
  obtain ⟨cl5, Ar5, qa5, Sa5, Ma5, Ha5, Ga5⟩ := id f4
  have hin5 : ¬ ((1 : Int32) < 0 ∨ cl5.slots.size ≤ ((1 : Int32)).toNatClampNeg) := inb_of Sa5 ⟨by decide, by decide⟩
  refine own_st (X3.caload hx (j := (1 : Int32)) (v := (.int c1)) (own_hat e3 Ar5.1) (State.isArrayOf_alike hZ.alike Ar5.2.1) Ar5.2.2 hin5 (Has.at Ha5 hin5 rfl) (g := (mkF m 12 #[.val (.ref a1), .val (.int (1 : Int32)), .val (.ref a3), .val (.int (1 : Int32)), .val (.int (2 : Int32)), .val (.int (1 : Int32)), .val (.int c0)] [(.int (1 : Int32)), (.ref a1)])) rfl rfl (hb hby d13_12)) ?_
  show own_Go p e below K (T3.setTop (mkF m 13 #[.val (.ref a1), .val (.int (1 : Int32)), .val (.ref a3), .val (.int (1 : Int32)), .val (.int (2 : Int32)), .val (.int (1 : Int32)), .val (.int c0)] [(.int c1)]))
  refine own_st (fun t k => XS.istore X3.here hx rfl (hb hby d13_13) rfl (l' := #[.val (.ref a1), .val (.int (1 : Int32)), .val (.ref a3), .val (.int (1 : Int32)), .val (.int (2 : Int32)), .val (.int (1 : Int32)), .val (.int c1)]) rfl k) ?_
  show own_Go p e below K (T3.setTop (mkF m 15 #[.val (.ref a1), .val (.int (1 : Int32)), .val (.ref a3), .val (.int (1 : Int32)), .val (.int (2 : Int32)), .val (.int (1 : Int32)), .val (.int c1)] []))
  refine own_st (fun t k => XS.iload X3.here hx rfl (hb hby d13_15) rfl k) ?_
  show own_Go p e below K (T3.setTop (mkF m 17 #[.val (.ref a1), .val (.int (1 : Int32)), .val (.ref a3), .val (.int (1 : Int32)), .val (.int (2 : Int32)), .val (.int (1 : Int32)), .val (.int c1)] [(.int c1)]))
  refine own_st (fun t k => XS.sipush X3.here hx rfl (hb hby d13_17) k) ?_
  show own_Go p e below K (T3.setTop (mkF m 20 #[.val (.ref a1), .val (.int (1 : Int32)), .val (.ref a3), .val (.int (1 : Int32)), .val (.int (2 : Int32)), .val (.int (1 : Int32)), .val (.int c1)] [(.int (255 : Int32)), (.int c1)]))
  refine own_st (fun t k => XS.icmpYes X3.here hx rfl (pc0 := 20) (pc' := 26) rfl (hb hby d13_20) rfl (flt (own_nlt (show c1.toInt ≤ (255 : Int32).toInt from hb1.2) : ¬ ((255 : Int32) < c1))).2.2.2 (by decide) (by decide) k) ?_
  show own_Go p e below K (T3.setTop (mkF m 26 #[.val (.ref a1), .val (.int (1 : Int32)), .val (.ref a3), .val (.int (1 : Int32)), .val (.int (2 : Int32)), .val (.int (1 : Int32)), .val (.int c1)] []))
  refine own_st (fun t k => XS.aloadN X3.here hx rfl (hb hby d13_26) rfl rfl k) ?_
  show own_Go p e below K (T3.setTop (mkF m 27 #[.val (.ref a1), .val (.int (1 : Int32)), .val (.ref a3), .val (.int (1 : Int32)), .val (.int (2 : Int32)), .val (.int (1 : Int32)), .val (.int c1)] [(.ref a3)]))
  refine own_st (fun t k => XS.iloadN X3.here hx rfl (hb hby d13_27) rfl k) ?_
  show own_Go p e below K (T3.setTop (mkF m 28 #[.val (.ref a1), .val (.int (1 : Int32)), .val (.ref a3), .val (.int (1 : Int32)), .val (.int (2 : Int32)), .val (.int (1 : Int32)), .val (.int c1)] [(.int (1 : Int32)), (.ref a3)]))
  refine own_st (fun t k => XS.iload X3.here hx rfl (hb hby d13_28) rfl k) ?_
  show own_Go p e below K (T3.setTop (mkF m 30 #[.val (.ref a1), .val (.int (1 : Int32)), .val (.ref a3), .val (.int (1 : Int32)), .val (.int (2 : Int32)), .val (.int (1 : Int32)), .val (.int c1)] [(.int c1), (.int (1 : Int32)), (.ref a3)]))
  refine own_st (fun t k => XS.i2b X3.here hx rfl (hb hby d13_30) rfl k) ?_
  show own_Go p e below K (T3.setTop (mkF m 31 #[.val (.ref a1), .val (.int (1 : Int32)), .val (.ref a3), .val (.int (1 : Int32)), .val (.int (2 : Int32)), .val (.int (1 : Int32)), .val (.int c1)] [(.int (c1.toInt8.toInt32)), (.int (1 : Int32)), (.ref a3)]))
  obtain ⟨cl6, Ar6, qa6, Sa6, Ma6, Ha6, Ga6⟩ := id V3
  have hin6 : ¬ ((1 : Int32) < 0 ∨ cl6.slots.size ≤ ((1 : Int32)).toNatClampNeg) := inb_of Sa6 ⟨by decide, by decide⟩
  obtain ⟨T7, h7, X7, e7, W7, st7⟩ := stB X3 hx hZ e3 Ar6 (j := (1 : Int32)) hin6 (g := (mkF m 31 #[.val (.ref a1), .val (.int (1 : Int32)), .val (.ref a3), .val (.int (1 : Int32)), .val (.int (2 : Int32)), .val (.int (1 : Int32)), .val (.int c1)] [(.int (c1.toInt8.toInt32)), (.int (1 : Int32)), (.ref a3)])) rfl rfl (hb hby d13_31)
  have id7 : nar .byte (c1.toInt8.toInt32) = (c1.toInt8.toInt32) := (own_nb _)
  rw [id7] at W7
  have V7 : Arv Z h7 a3 kx3 .byte (2 : Int32) [(.int (c0.toInt8.toInt32)), (.int (c1.toInt8.toInt32))] (.int (0 : Int32)) := Arv.set Ar6 qa6 Sa6 Ma6 Ha6 Ga6 (own_fit id7) W7 1 rfl (Nat.le_of_ble_eq_true rfl)
  have f8 : Arv Z h7 a1 kx1 .char (2 : Int32) [(.int c0), (.int c1)] (.int (0 : Int32)) := f4.other W7 ne_a1_a3
  have N7 := Fr.snoc X7 N3 g_a3
  have Z7 : n0 ≤ h7.size := Nat.le_trans Z3 (Keep.of_wr W7).1
  have K7 : Keep h0 h7 [a3] := K3.wr W7 (Or.inl (List.mem_of_getElem? (i := 0) rfl))
  refine own_st st7 ?_
  show own_Go p e below K (T7.setTop (mkF m 32 #[.val (.ref a1), .val (.int (1 : Int32)), .val (.ref a3), .val (.int (1 : Int32)), .val (.int (2 : Int32)), .val (.int (1 : Int32)), .val (.int c1)] []))
  try clear X3 e3 st7 f4
  refine own_st (fun t k => XS.iinc X7.here hx rfl (hb hby d13_32) rfl (l' := #[.val (.ref a1), .val (.int ((1 : Int32) + (1 : Int32))), .val (.ref a3), .val (.int (1 : Int32)), .val (.int (2 : Int32)), .val (.int (1 : Int32)), .val (.int c1)]) rfl k) ?_
  show own_Go p e below K (T7.setTop (mkF m 35 #[.val (.ref a1), .val (.int ((1 : Int32) + (1 : Int32))), .val (.ref a3), .val (.int (1 : Int32)), .val (.int (2 : Int32)), .val (.int (1 : Int32)), .val (.int c1)] []))
  rw [show ((1 : Int32) + (1 : Int32)) = (2 : Int32) from by decide]
  show own_Go p e below K (T7.setTop (mkF m 35 #[.val (.ref a1), .val (.int (2 : Int32)), .val (.ref a3), .val (.int (1 : Int32)), .val (.int (2 : Int32)), .val (.int (1 : Int32)), .val (.int c1)] []))
  refine own_st (fun t k => XS.iinc X7.here hx rfl (hb hby d13_35) rfl (l' := #[.val (.ref a1), .val (.int (2 : Int32)), .val (.ref a3), .val (.int ((1 : Int32) + (1 : Int32))), .val (.int (2 : Int32)), .val (.int (1 : Int32)), .val (.int c1)]) rfl k) ?_
  show own_Go p e below K (T7.setTop (mkF m 38 #[.val (.ref a1), .val (.int (2 : Int32)), .val (.ref a3), .val (.int ((1 : Int32) + (1 : Int32))), .val (.int (2 : Int32)), .val (.int (1 : Int32)), .val (.int c1)] []))
  rw [show ((1 : Int32) + (1 : Int32)) = (2 : Int32) from by decide]
  show own_Go p e below K (T7.setTop (mkF m 38 #[.val (.ref a1), .val (.int (2 : Int32)), .val (.ref a3), .val (.int (2 : Int32)), .val (.int (2 : Int32)), .val (.int (1 : Int32)), .val (.int c1)] []))
  refine own_st (fun t k => XS.iinc X7.here hx rfl (hb hby d13_38) rfl (l' := #[.val (.ref a1), .val (.int (2 : Int32)), .val (.ref a3), .val (.int (2 : Int32)), .val (.int (2 : Int32)), .val (.int ((1 : Int32) + (1 : Int32))), .val (.int c1)]) rfl k) ?_
  show own_Go p e below K (T7.setTop (mkF m 41 #[.val (.ref a1), .val (.int (2 : Int32)), .val (.ref a3), .val (.int (2 : Int32)), .val (.int (2 : Int32)), .val (.int ((1 : Int32) + (1 : Int32))), .val (.int c1)] []))
  rw [show ((1 : Int32) + (1 : Int32)) = (2 : Int32) from by decide]
  show own_Go p e below K (T7.setTop (mkF m 41 #[.val (.ref a1), .val (.int (2 : Int32)), .val (.ref a3), .val (.int (2 : Int32)), .val (.int (2 : Int32)), .val (.int (2 : Int32)), .val (.int c1)] []))
  refine own_st (fun t k => XS.goto X7.here hx rfl (pc0 := 41) (pc' := 3) rfl (hb hby d13_41) (by decide) (by decide) k) ?_
  show own_Go p e below K (T7.setTop (mkF m 3 #[.val (.ref a1), .val (.int (2 : Int32)), .val (.ref a3), .val (.int (2 : Int32)), .val (.int (2 : Int32)), .val (.int (2 : Int32)), .val (.int c1)] []))
  refine own_st (fun t k => XS.iload X7.here hx rfl (hb hby d13_3) rfl k) ?_
  show own_Go p e below K (T7.setTop (mkF m 5 #[.val (.ref a1), .val (.int (2 : Int32)), .val (.ref a3), .val (.int (2 : Int32)), .val (.int (2 : Int32)), .val (.int (2 : Int32)), .val (.int c1)] [(.int (2 : Int32))]))
  refine own_st (fun t k => XS.iload X7.here hx rfl (hb hby d13_5) rfl k) ?_
  show own_Go p e below K (T7.setTop (mkF m 7 #[.val (.ref a1), .val (.int (2 : Int32)), .val (.ref a3), .val (.int (2 : Int32)), .val (.int (2 : Int32)), .val (.int (2 : Int32)), .val (.int c1)] [(.int (2 : Int32)), (.int (2 : Int32))]))
  refine own_st (fun t k => XS.icmpYes X7.here hx rfl (pc0 := 7) (pc' := 44) rfl (hb hby d13_7) rfl (flt (by decide : ¬ ((2 : Int32) < (2 : Int32)))).2.1 (by decide) (by decide) k) ?_
  show own_Go p e below K (T7.setTop (mkF m 44 #[.val (.ref a1), .val (.int (2 : Int32)), .val (.ref a3), .val (.int (2 : Int32)), .val (.int (2 : Int32)), .val (.int (2 : Int32)), .val (.int c1)] []))
  refine own_st (fun t k => XS.iload X7.here hx rfl (hb hby d13_44) rfl k) ?_
  show own_Go p e below K (T7.setTop (mkF m 46 #[.val (.ref a1), .val (.int (2 : Int32)), .val (.ref a3), .val (.int (2 : Int32)), .val (.int (2 : Int32)), .val (.int (2 : Int32)), .val (.int c1)] [(.int (2 : Int32))]))
  obtain ⟨fs, hr, hrun, hended, hW, hsame⟩ := X7.leave (v := some (.int (2 : Int32))) (fun h => by rw [Bd.returns] at h; cases h)
  refine ⟨_, retI X7 hx Bd.returns (hb hby d13_46) hr, fin _ _ _ hrun hended ?_ ⟨⟨_, rfl⟩, hW, hsame.mono (by decide) (by decide)⟩⟩
  show Q13 Z a1 a3 c0 c1 kx1 kx3 h0 n0 _ T7.heap _
  rw [e7]
  exact ⟨_, rfl, rfl, N7, K7, V7⟩
theorem d12_0 : decode jdk_52_method_16_code 0 = .ok (.iload_n 2, 1) := by decide +kernel
theorem d12_1 : decode jdk_52_method_16_code 1 = .ok (.newarray .byte, 2) := by decide +kernel
theorem d12_3 : decode jdk_52_method_16_code 3 = .ok (.astore_n 3, 1) := by decide +kernel
theorem d12_4 : decode jdk_52_method_16_code 4 = .ok (.aload_n 0, 1) := by decide +kernel
theorem d12_5 : decode jdk_52_method_16_code 5 = .ok (.iload_n 1, 1) := by decide +kernel
theorem d12_6 : decode jdk_52_method_16_code 6 = .ok (.aload_n 3, 1) := by decide +kernel
theorem d12_7 : decode jdk_52_method_16_code 7 = .ok (.iconst 0, 1) := by decide +kernel
theorem d12_8 : decode jdk_52_method_16_code 8 = .ok (.iload_n 2, 1) := by decide +kernel
theorem d12_9 : decode jdk_52_method_16_code 9 = .ok (.invokestatic 115, 3) := by decide +kernel
theorem d12_12 : decode jdk_52_method_16_code 12 = .ok (.istore 4, 2) := by decide +kernel
theorem d12_14 : decode jdk_52_method_16_code 14 = .ok (.iload 4, 2) := by decide +kernel
theorem d12_16 : decode jdk_52_method_16_code 16 = .ok (.iload_n 2, 1) := by decide +kernel
theorem d12_17 : decode jdk_52_method_16_code 17 = .ok (.if_icmp .eq 40, 3) := by decide +kernel
theorem d12_57 : decode jdk_52_method_16_code 57 = .ok (.aload_n 3, 1) := by decide +kernel
theorem d12_58 : decode jdk_52_method_16_code 58 = .ok (.areturn, 1) := by decide +kernel
theorem pn_12 : plainName "java/lang/StringUTF16" = true := by first | (simp [plainName, overriddenIn]; done) | decide +kernel
theorem pd_12_11 : parseMethodDescriptor "([CI[BII)I" = some ⟨[(.array .char), .int, (.array .byte), .int, .int], some .int⟩ := by decide +kernel
theorem ef_12 (m : MethodId) (x0 : Addr) (x1 : Int32) (x2 : Int32) : entryFrame m #[(.ref x0), (.int x1), (.int x2)] 6 = mkF m 0 #[.val (.ref x0), .val (.int x1), .val (.int x2), .unset, .unset, .unset] [] := by first | (simp [entryFrame, mkF, argsToLocals, Value.category]; done) | rfl
def Q12 (Z : State) (a1 : Addr) (c0 : Int32) (c1 : Int32) (kx1 : ClassId) (h0 : Heap) (n0 : Nat) (v : Option Value) (h : Heap) (L : List Loc) : Prop := ∃ (r : Addr) (k : ClassId), v = some (.ref r) ∧ (True) ∧ h0.size ≤ r ∧ Fr n0 L ∧ Keep h0 h [] ∧ (Arv Z h r k .byte (2 : Int32) [(.int (c0.toInt8.toInt32)), (.int (c1.toInt8.toInt32))] (.int (0 : Int32)))
set_option maxRecDepth 65536 in
set_option maxHeartbeats 40000000 in
theorem rm12 (l : Launch) (Z : State) (a0 : Array Value) (hw : ∀ d ∈ tables_1, d.before a0 Z = true) (ws : List Jvm.Cond) (a1 : Addr) (c0 : Int32) (c1 : Int32) (kx1 : ClassId) (h0 : Heap) (n0 : Nat) (Z0 : n0 ≤ h0.size) (P0 : Arv Z h0 a1 kx1 .char (2 : Int32) [(.int c0), (.int c1)] (.int (0 : Int32))) (hb0 : 0 ≤ c0.toInt ∧ c0.toInt ≤ 255) (hb1 : 0 ≤ c1.toInt ∧ c1.toInt ≤ 255) :
    MetFree l (⟨"java/lang/StringUTF16", "compress", "([CII)[B"⟩ : MethodName) (head1 (Jvm.Cond.code (⟨"java/lang/StringUTF16", "compress", "([CII)[B"⟩ : MethodName) jdk_52_method_16_code 6 (some (.array .byte)) :: ws) ({ frames := 1, cells := 1, slots := 2, locals := 18 } : Room)) (fun a U => a = #[(.ref a1), (.int (0 : Int32)), (.int (2 : Int32))] ∧ Z.Warmed39 U.vm ∧ U.heap = h0) (fun _ _ _ _ _ => True) (fun _ U o U' => ∃ v L, o = .returned v ∧ Q12 Z a1 c0 c1 kx1 h0 n0 v U'.heap L ∧ FrameEnd U o U' L ({ frames := 1, cells := 1, slots := 2, locals := 18 } : Room).cells ({ frames := 1, cells := 1, slots := 2, locals := 18 } : Room).slots) := by
  refine MetFree.of_bodySF (plainFor_of_name pn_12) hisR ?_
  intro p e s m args below meth c s₁ Bd hml0 hP hK
  obtain ⟨rfl, hZ, hh⟩ := hP
  have hx := Bd.exec
  have hby := Bd.bytes
  have hml : c.maxLocals = 6 := hml0
  have hown : s.vm.findClass "java/lang/StringUTF16" = some m.cls := findClass_of_methodNamed Bd.named
  have hnm := (name_of_methodNamed Bd.named Bd.method).1
  have X0 : Stand p l e ({ frames := 1, cells := 1, slots := 2, locals := 18 } : Room) s m #[(.ref a1), (.int (0 : Int32)), (.int (2 : Int32))] below meth c s₁ [] 0 0 := Stand.of_body Bd
  have e0 : s₁.heap = h0 := by rw [← hh, Bd.state]; rfl
  have N0 := Fr.nil n0
  suffices G0 : ∀ K : State → Prop, (∀ (n : State) (v : Option Value) (L : List Loc), n.status = .running → Ended n below (.returned v) → Q12 Z a1 c0 c1 kx1 h0 n0 v n.heap L → FrameEnd s (.returned v) n L ({ frames := 1, cells := 1, slots := 2, locals := 18 } : Room).cells ({ frames := 1, cells := 1, slots := 2, locals := 18 } : Room).slots → K n) → own_Go p e below K (s₁.setTop (mkF m 0 #[.val (.ref a1), .val (.int (0 : Int32)), .val (.int (2 : Int32)), .unset, .unset, .unset] [])) by
    obtain ⟨t, st, o, a, b, v, L, e1, q, fe⟩ := G0 (fun n => ∃ o, n.status = .running ∧ Ended n below o ∧ ∃ v L, o = .returned v ∧ Q12 Z a1 c0 c1 kx1 h0 n0 v n.heap L ∧ FrameEnd s o n L ({ frames := 1, cells := 1, slots := 2, locals := 18 } : Room).cells ({ frames := 1, cells := 1, slots := 2, locals := 18 } : Room).slots) (fun n v L a b q f => ⟨_, a, b, v, L, rfl, q, f⟩)
    exact ⟨t, o, castTop (ef_12 m a1 (0 : Int32) (2 : Int32)) st, a, b, v, L, e1, q, fe⟩
  intro K fin
  show own_Go p e below K (s₁.setTop (mkF m 0 #[.val (.ref a1), .val (.int (0 : Int32)), .val (.int (2 : Int32)), .unset, .unset, .unset] []))
  refine own_st (fun t k => XS.iloadN X0.here hx rfl (hb hby d12_0) rfl k) ?_
  show own_Go p e below K (s₁.setTop (mkF m 1 #[.val (.ref a1), .val (.int (0 : Int32)), .val (.int (2 : Int32)), .unset, .unset, .unset] [(.int (2 : Int32))]))
  obtain ⟨T1, h1, k1, X1, e1, E1, A1, st1⟩ := newP X0 hx hZ (hw _ (List.mem_of_getElem? (i := 29) rfl)) e0 (g := (mkF m 1 #[.val (.ref a1), .val (.int (0 : Int32)), .val (.int (2 : Int32)), .unset, .unset, .unset] [(.int (2 : Int32))])) rfl (hb hby d12_1) rfl (by decide) (cap := 2) (by decide) (by decide) (by decide) (by decide)
  obtain ⟨b1, g1⟩ : ∃ z, z = h0.size := ⟨_, rfl⟩
  rw [← g1] at A1 st1
  have ne_a1_b1 : a1 ≠ b1 := Nat.ne_of_lt (Nat.lt_of_lt_of_le P0.lt (Nat.le_of_eq g1.symm))
  have g_b1 : n0 ≤ b1 := Nat.le_trans Z0 (Nat.le_of_eq g1.symm)
  have sz_b1 : h0.size ≤ b1 := Nat.le_trans (Keep.refl h0 []).1 (Nat.le_of_eq g1.symm)
  have f2 : Arv Z h1 a1 kx1 .char (2 : Int32) [(.int c0), (.int c1)] (.int (0 : Int32)) := P0.ext E1
  have V1 : Arv Z h1 b1 k1 .byte (2 : Int32) [(.int (0 : Int32)), (.int (0 : Int32))] (.int (0 : Int32)) := (Arv.new A1 (by decide)).pad (pad_rep [] (.int (0 : Int32)) 2)
  have Z1 : n0 ≤ h1.size := Nat.le_trans Z0 E1.1
  have K1 : Keep h0 h1 [] := (Keep.refl h0 []).ext E1
  refine own_st st1 ?_
  show own_Go p e below K (T1.setTop (mkF m 3 #[.val (.ref a1), .val (.int (0 : Int32)), .val (.int (2 : Int32)), .unset, .unset, .unset] [(.ref b1)]))
  try clear st1 P0
  refine own_st (fun t k => XS.astoreN X1.here hx rfl (hb hby d12_3) rfl rfl (l' := #[.val (.ref a1), .val (.int (0 : Int32)), .val (.int (2 : Int32)), .val (.ref b1), .unset, .unset]) rfl k) ?_
  show own_Go p e below K (T1.setTop (mkF m 4 #[.val (.ref a1), .val (.int (0 : Int32)), .val (.int (2 : Int32)), .val (.ref b1), .unset, .unset] []))
  refine own_st (fun t k => XS.aloadN X1.here hx rfl (hb hby d12_4) rfl rfl k) ?_
  show own_Go p e below K (T1.setTop (mkF m 5 #[.val (.ref a1), .val (.int (0 : Int32)), .val (.int (2 : Int32)), .val (.ref b1), .unset, .unset] [(.ref a1)]))
  refine own_st (fun t k => XS.iloadN X1.here hx rfl (hb hby d12_5) rfl k) ?_
  show own_Go p e below K (T1.setTop (mkF m 6 #[.val (.ref a1), .val (.int (0 : Int32)), .val (.int (2 : Int32)), .val (.ref b1), .unset, .unset] [(.int (0 : Int32)), (.ref a1)]))
  refine own_st (fun t k => XS.aloadN X1.here hx rfl (hb hby d12_6) rfl rfl k) ?_
  show own_Go p e below K (T1.setTop (mkF m 7 #[.val (.ref a1), .val (.int (0 : Int32)), .val (.int (2 : Int32)), .val (.ref b1), .unset, .unset] [(.ref b1), (.int (0 : Int32)), (.ref a1)]))
  refine own_st (fun t k => XS.iconst X1.here hx rfl (hb hby d12_7) k) ?_
  show own_Go p e below K (T1.setTop (mkF m 8 #[.val (.ref a1), .val (.int (0 : Int32)), .val (.int (2 : Int32)), .val (.ref b1), .unset, .unset] [(.int (0 : Int32)), (.ref b1), (.int (0 : Int32)), (.ref a1)]))
  refine own_st (fun t k => XS.iloadN X1.here hx rfl (hb hby d12_8) rfl k) ?_
  show own_Go p e below K (T1.setTop (mkF m 9 #[.val (.ref a1), .val (.int (0 : Int32)), .val (.int (2 : Int32)), .val (.ref b1), .unset, .unset] [(.int (2 : Int32)), (.int (0 : Int32)), (.ref b1), (.int (0 : Int32)), (.ref a1)]))
  obtain ⟨_, _, ⟨T3, L3, k3, n3⟩, -, X3, ⟨Lc3, hQ3, l3, y3, z3⟩, st3⟩ := Jvm.LawKit.callS X1 hx (y := (⟨"java/lang/StringUTF16", "compress", "([CI[BII)I"⟩ : MethodName)) hown (mvT hZ (hw _ (List.mem_of_getElem? (i := 71) rfl))) (mvT hZ (hw _ (List.mem_of_getElem? (i := 72) rfl))) (mvT hZ (hw _ (List.mem_of_getElem? (i := 69) rfl))) (mvT hZ (hw _ (List.mem_of_getElem? (i := 73) rfl))) (by decide) (backOf (W := 0) (rm13 l Z a0 hw [] a1 b1 (c0) (c1) (kx1) (k1) h1 n0 Z1 g_b1 ne_a1_b1 f2 V1 (by assumption) (by assumption)) hZ (hw _ (List.mem_of_getElem? (i := 73) rfl)) (hw _ (List.mem_of_getElem? (i := 69) rfl)) (by decide) (by decide)) (g := (mkF m 9 #[.val (.ref a1), .val (.int (0 : Int32)), .val (.int (2 : Int32)), .val (.ref b1), .unset, .unset] [(.int (2 : Int32)), (.int (0 : Int32)), (.ref b1), (.int (0 : Int32)), (.ref a1)])) rfl (by rw [hml]; rfl) (argsL := [(.ref a1), (.int (0 : Int32)), (.ref b1), (.int (0 : Int32)), (.int (2 : Int32))]) (rest := []) (lenOf pd_12_11 rfl) rfl (by show 2 * 0 + _ ≤ _; exact Nat.le_of_eq rfl) (hb hby d12_9) (fun _ _ => ⟨rfl, e1, (by decide : 1 + 0 ≤ _), (by decide : 2 + 0 ≤ _)⟩)
  dsimp only [Pt.U, Pt.locs, Pt.cells, Pt.slots] at X3 l3 y3 z3 st3 hQ3
  obtain ⟨r3, rfl, hr3, N3q, Kq3, p3_0⟩ := hQ3
  have N3 : Fr n0 L3 := by rw [l3]; exact Fr.app N0 N3q
  clear l3
  have y3' : k3 = 1 := y3
  have z3' : n3 = 2 := z3
  clear y3 z3
  subst y3' z3'
  have f4 : Arv Z T3.heap a1 kx1 .char (2 : Int32) [(.int c0), (.int c1)] (.int (0 : Int32)) := f2.keep Kq3 (ninS ne_a1_b1 nin0)
  have Z3 : n0 ≤ T3.heap.size := Nat.le_trans Z1 Kq3.1
  have K3 : Keep h0 T3.heap [] := K1.trans Kq3 (allS (P := fun x => x ∈ [] ∨ h0.size ≤ x) (Or.inr sz_b1) all0)
  refine own_st st3 ?_
  show own_Go p e below K (T3.setTop (mkF m 12 #[.val (.ref a1), .val (.int (0 : Int32)), .val (.int (2 : Int32)), .val (.ref b1), .unset, .unset] [(.int r3)]))
  try clear X1 e1 st3 N3q f2
  refine own_st (fun t k => XS.istore X3.here hx rfl (hb hby d12_12) rfl (l' := #[.val (.ref a1), .val (.int (0 : Int32)), .val (.int (2 : Int32)), .val (.ref b1), .val (.int r3), .unset]) rfl k) ?_
  show own_Go p e below K (T3.setTop (mkF m 14 #[.val (.ref a1), .val (.int (0 : Int32)), .val (.int (2 : Int32)), .val (.ref b1), .val (.int r3), .unset] []))
  refine own_st (fun t k => XS.iload X3.here hx rfl (hb hby d12_14) rfl k) ?_
  show own_Go p e below K (T3.setTop (mkF m 16 #[.val (.ref a1), .val (.int (0 : Int32)), .val (.int (2 : Int32)), .val (.ref b1), .val (.int r3), .unset] [(.int r3)]))
  refine own_st (fun t k => XS.iloadN X3.here hx rfl (hb hby d12_16) rfl k) ?_
  show own_Go p e below K (T3.setTop (mkF m 17 #[.val (.ref a1), .val (.int (0 : Int32)), .val (.int (2 : Int32)), .val (.ref b1), .val (.int r3), .unset] [(.int (2 : Int32)), (.int r3)]))
  refine own_st (fun t k => XS.icmpYes X3.here hx rfl (pc0 := 17) (pc' := 57) rfl (hb hby d12_17) rfl (teq (hr3 : r3 = (2 : Int32))).1 (by decide) (by decide) k) ?_
  show own_Go p e below K (T3.setTop (mkF m 57 #[.val (.ref a1), .val (.int (0 : Int32)), .val (.int (2 : Int32)), .val (.ref b1), .val (.int r3), .unset] []))
  refine own_st (fun t k => XS.aloadN X3.here hx rfl (hb hby d12_57) rfl rfl k) ?_
  show own_Go p e below K (T3.setTop (mkF m 58 #[.val (.ref a1), .val (.int (0 : Int32)), .val (.int (2 : Int32)), .val (.ref b1), .val (.int r3), .unset] [(.ref b1)]))
  obtain ⟨fs, hr, hrun, hended, hW, hsame⟩ := X3.leave (v := some (.ref b1)) (fun h => by rw [Bd.returns] at h; cases h)
  refine ⟨_, X3.areturnOut hx rfl Bd.returns rfl (hb hby d12_58) hr, fin _ _ _ hrun hended ?_ ⟨⟨_, rfl⟩, hW, hsame.mono (by decide) (by decide)⟩⟩
  show Q12 Z a1 c0 c1 kx1 h0 n0 _ T3.heap _
  exact ⟨_, k1, rfl, trivial, sz_b1, N3, K3, p3_0⟩
theorem d14_0 : decode jdk_52_method_15_code 0 = .ok (.iload_n 1, 1) := by decide +kernel
theorem d14_1 : decode jdk_52_method_15_code 1 = .ok (.aload_n 0, 1) := by decide +kernel
theorem d14_2 : decode jdk_52_method_15_code 2 = .ok (.arraylength, 1) := by decide +kernel
theorem d14_3 : decode jdk_52_method_15_code 3 = .ok (.isub, 1) := by decide +kernel
theorem d14_4 : decode jdk_52_method_15_code 4 = .ok (.bipush 31, 2) := by decide +kernel
theorem d14_6 : decode jdk_52_method_15_code 6 = .ok (.iushr, 1) := by decide +kernel
theorem d14_7 : decode jdk_52_method_15_code 7 = .ok (.i2b, 1) := by decide +kernel
theorem d14_8 : decode jdk_52_method_15_code 8 = .ok (.ireturn, 1) := by decide +kernel
theorem pn_14 : plainName "java/lang/StringUTF16" = true := by first | (simp [plainName, overriddenIn]; done) | decide +kernel
theorem ef_14 (m : MethodId) (x0 : Addr) (x1 : Int32) : entryFrame m #[(.ref x0), (.int x1)] 2 = mkF m 0 #[.val (.ref x0), .val (.int x1)] [] := by first | (simp [entryFrame, mkF, argsToLocals, Value.category]; done) | rfl
def Q14 (Z : State) (a1 : Addr) (kx1 : ClassId) (ex0 : Int32) (ex1 : Int32) (h0 : Heap) (n0 : Nat) (v : Option Value) (h : Heap) (L : List Loc) : Prop := ∃ (r : Int32), v = some (.int r) ∧ (r = (0 : Int32)) ∧ Fr n0 L ∧ h = h0
set_option maxRecDepth 65536 in
set_option maxHeartbeats 40000000 in
theorem rm14 (l : Launch) (Z : State) (a0 : Array Value) (hw : ∀ d ∈ tables_1, d.before a0 Z = true) (ws : List Jvm.Cond) (a1 : Addr) (kx1 : ClassId) (ex0 : Int32) (ex1 : Int32) (h0 : Heap) (n0 : Nat) (Z0 : n0 ≤ h0.size) (P0 : Arv Z h0 a1 kx1 .byte (2 : Int32) [(.int ex0), (.int ex1)] (.int (0 : Int32))) :
    MetFree l (⟨"java/lang/StringUTF16", "coderFromArrayLen", "([BI)B"⟩ : MethodName) (head1 (Jvm.Cond.code (⟨"java/lang/StringUTF16", "coderFromArrayLen", "([BI)B"⟩ : MethodName) jdk_52_method_15_code 2 (some .byte) :: ws) ({ frames := 0, cells := 0, slots := 0, locals := 0 } : Room)) (fun a U => a = #[(.ref a1), (.int (2 : Int32))] ∧ Z.Warmed39 U.vm ∧ U.heap = h0) (fun _ _ _ _ _ => True) (fun _ U o U' => ∃ v L, o = .returned v ∧ Q14 Z a1 kx1 ex0 ex1 h0 n0 v U'.heap L ∧ FrameEnd U o U' L ({ frames := 0, cells := 0, slots := 0, locals := 0 } : Room).cells ({ frames := 0, cells := 0, slots := 0, locals := 0 } : Room).slots) := by
  refine MetFree.of_bodySF (plainFor_of_name pn_14) hisR ?_
  intro p e s m args below meth c s₁ Bd hml0 hP hK
  obtain ⟨rfl, hZ, hh⟩ := hP
  have hx := Bd.exec
  have hby := Bd.bytes
  have hml : c.maxLocals = 2 := hml0
  have hown : s.vm.findClass "java/lang/StringUTF16" = some m.cls := findClass_of_methodNamed Bd.named
  have hnm := (name_of_methodNamed Bd.named Bd.method).1
  have X0 : Stand p l e ({ frames := 0, cells := 0, slots := 0, locals := 0 } : Room) s m #[(.ref a1), (.int (2 : Int32))] below meth c s₁ [] 0 0 := Stand.of_body Bd
  have e0 : s₁.heap = h0 := by rw [← hh, Bd.state]; rfl
  have N0 := Fr.nil n0
  suffices G0 : ∀ K : State → Prop, (∀ (n : State) (v : Option Value) (L : List Loc), n.status = .running → Ended n below (.returned v) → Q14 Z a1 kx1 ex0 ex1 h0 n0 v n.heap L → FrameEnd s (.returned v) n L ({ frames := 0, cells := 0, slots := 0, locals := 0 } : Room).cells ({ frames := 0, cells := 0, slots := 0, locals := 0 } : Room).slots → K n) → own_Go p e below K (s₁.setTop (mkF m 0 #[.val (.ref a1), .val (.int (2 : Int32))] [])) by
    obtain ⟨t, st, o, a, b, v, L, e1, q, fe⟩ := G0 (fun n => ∃ o, n.status = .running ∧ Ended n below o ∧ ∃ v L, o = .returned v ∧ Q14 Z a1 kx1 ex0 ex1 h0 n0 v n.heap L ∧ FrameEnd s o n L ({ frames := 0, cells := 0, slots := 0, locals := 0 } : Room).cells ({ frames := 0, cells := 0, slots := 0, locals := 0 } : Room).slots) (fun n v L a b q f => ⟨_, a, b, v, L, rfl, q, f⟩)
    exact ⟨t, o, castTop (ef_14 m a1 (2 : Int32)) st, a, b, v, L, e1, q, fe⟩
  intro K fin
  show own_Go p e below K (s₁.setTop (mkF m 0 #[.val (.ref a1), .val (.int (2 : Int32))] []))
  refine own_st (fun t k => XS.iloadN X0.here hx rfl (hb hby d14_0) rfl k) ?_
  show own_Go p e below K (s₁.setTop (mkF m 1 #[.val (.ref a1), .val (.int (2 : Int32))] [(.int (2 : Int32))]))
  refine own_st (fun t k => XS.aloadN X0.here hx rfl (hb hby d14_1) rfl rfl k) ?_
  show own_Go p e below K (s₁.setTop (mkF m 2 #[.val (.ref a1), .val (.int (2 : Int32))] [(.ref a1), (.int (2 : Int32))]))
  obtain ⟨cl1, Ar1, -, Sa1, Ma1, -, -⟩ := id P0
  refine own_st (X0.arraylength hx (own_hat e0 Ar1.1) (State.isArrayOf_alike hZ.alike Ar1.2.1) (g := (mkF m 2 #[.val (.ref a1), .val (.int (2 : Int32))] [(.ref a1), (.int (2 : Int32))])) rfl rfl (hb hby d14_2)) ?_
  rw [len_of Sa1 Ma1]
  show own_Go p e below K (s₁.setTop (mkF m 3 #[.val (.ref a1), .val (.int (2 : Int32))] [(.int (2 : Int32)), (.int (2 : Int32))]))
  refine own_st (fun t k => XS.isub X0.here hx rfl (hb hby d14_3) rfl k) ?_
  show own_Go p e below K (s₁.setTop (mkF m 4 #[.val (.ref a1), .val (.int (2 : Int32))] [(.int ((2 : Int32) - (2 : Int32)))]))
  rw [show ((2 : Int32) - (2 : Int32)) = (0 : Int32) from by decide]
  show own_Go p e below K (s₁.setTop (mkF m 4 #[.val (.ref a1), .val (.int (2 : Int32))] [(.int (0 : Int32))]))
  refine own_st (fun t k => XS.bipush X0.here hx rfl (hb hby d14_4) k) ?_
  show own_Go p e below K (s₁.setTop (mkF m 6 #[.val (.ref a1), .val (.int (2 : Int32))] [(.int (31 : Int32)), (.int (0 : Int32))]))
  refine own_st (fun t k => XS.iushr X0.here hx rfl (hb hby d14_6) rfl k) ?_
  show own_Go p e below K (s₁.setTop (mkF m 7 #[.val (.ref a1), .val (.int (2 : Int32))] [(.int (((0 : Int32).toUInt32 >>> ((31 : Int32) &&& 31).toUInt32).toInt32))]))
  refine own_st (fun t k => XS.i2b X0.here hx rfl (hb hby d14_7) rfl k) ?_
  show own_Go p e below K (s₁.setTop (mkF m 8 #[.val (.ref a1), .val (.int (2 : Int32))] [(.int ((((0 : Int32).toUInt32 >>> ((31 : Int32) &&& 31).toUInt32).toInt32).toInt8.toInt32))]))
  obtain ⟨fs, hr, hrun, hended, hW, hsame⟩ := X0.leave (v := some (.int (nar .byte ((((0 : Int32).toUInt32 >>> ((31 : Int32) &&& 31).toUInt32).toInt32).toInt8.toInt32)))) (fun h => by rw [Bd.returns] at h; cases h)
  refine ⟨_, retN X0 hx (t := .byte) Bd.returns (by simp) (hb hby d14_8) hr, fin _ _ _ hrun hended ?_ ⟨⟨_, rfl⟩, hW, hsame.mono (by decide) (by decide)⟩⟩
  show Q14 Z a1 kx1 ex0 ex1 h0 n0 _ s₁.heap _
  rw [e0]
  exact ⟨_, rfl, (by decide), N0, rfl⟩
theorem d5_0 : decode jdk_42_method_149_code 0 = .ok (.aload_n 0, 1) := by decide +kernel
theorem d5_1 : decode jdk_42_method_149_code 1 = .ok (.invokespecial 1, 3) := by decide +kernel
theorem d5_4 : decode jdk_42_method_149_code 4 = .ok (.iload_n 3, 1) := by decide +kernel
theorem d5_5 : decode jdk_42_method_149_code 5 = .ok (.ifCond .ne 22, 3) := by decide +kernel
theorem d5_27 : decode jdk_42_method_149_code 27 = .ok (.getstatic 38, 3) := by decide +kernel
theorem d5_30 : decode jdk_42_method_149_code 30 = .ok (.ifCond .eq 28, 3) := by decide +kernel
theorem d5_33 : decode jdk_42_method_149_code 33 = .ok (.aload_n 1, 1) := by decide +kernel
theorem d5_34 : decode jdk_42_method_149_code 34 = .ok (.iload_n 2, 1) := by decide +kernel
theorem d5_35 : decode jdk_42_method_149_code 35 = .ok (.iload_n 3, 1) := by decide +kernel
theorem d5_36 : decode jdk_42_method_149_code 36 = .ok (.invokestatic 177, 3) := by decide +kernel
theorem d5_39 : decode jdk_42_method_149_code 39 = .ok (.astore 5, 2) := by decide +kernel
theorem d5_41 : decode jdk_42_method_149_code 41 = .ok (.aload_n 0, 1) := by decide +kernel
theorem d5_42 : decode jdk_42_method_149_code 42 = .ok (.aload 5, 2) := by decide +kernel
theorem d5_44 : decode jdk_42_method_149_code 44 = .ok (.iload_n 3, 1) := by decide +kernel
theorem d5_45 : decode jdk_42_method_149_code 45 = .ok (.invokestatic 47, 3) := by decide +kernel
theorem d5_48 : decode jdk_42_method_149_code 48 = .ok (.putfield 15, 3) := by decide +kernel
theorem d5_51 : decode jdk_42_method_149_code 51 = .ok (.aload_n 0, 1) := by decide +kernel
theorem d5_52 : decode jdk_42_method_149_code 52 = .ok (.aload 5, 2) := by decide +kernel
theorem d5_54 : decode jdk_42_method_149_code 54 = .ok (.putfield 9, 3) := by decide +kernel
theorem d5_57 : decode jdk_42_method_149_code 57 = .ok (.return_, 1) := by decide +kernel
theorem pn_5 : plainName "java/lang/String" = true := by first | (simp [plainName, overriddenIn]; done) | decide +kernel
theorem pd_5_10 : parseMethodDescriptor "([CII)[B" = some ⟨[(.array .char), .int, .int], some (.array .byte)⟩ := by decide +kernel
theorem pd_5_12 : parseMethodDescriptor "([BI)B" = some ⟨[(.array .byte), .int], some .byte⟩ := by decide +kernel
theorem ef_5c (m : MethodId) (x0 : Addr) (x1 : Addr) (x2 : Int32) (x3 : Int32) : entryFrame m #[(.ref x0), (.ref x1), (.int x2), (.int x3), .null] 6 = mkF m 0 #[.val (.ref x0), .val (.ref x1), .val (.int x2), .val (.int x3), .val .null, .unset] [] := by first | (simp [entryFrame, mkF, argsToLocals, Value.category]; done) | rfl
def Q5c (Z : State) (a1 : Addr) (a2 : Addr) (cs : Int32) (c0 : Int32) (c1 : Int32) (kx1 : ClassId) (h0 : Heap) (n0 : Nat) (v : Option Value) (h : Heap) (L : List Loc) : Prop := ∃ (b : Addr) (k : ClassId), v = none ∧ Fr n0 L ∧ Keep h0 h [a1] ∧ (Exa Z h a1 "java/lang/String") ∧ (Fld Z h a1 "java/lang/String" "coder" "B" (.int (0 : Int32))) ∧ (Fld Z h a1 "java/lang/String" "value" "[B" (.ref b)) ∧ (Arv Z h b k .byte (2 : Int32) [(.int (c0.toInt8.toInt32)), (.int (c1.toInt8.toInt32))] (.int (0 : Int32)))
set_option maxRecDepth 65536 in
set_option maxHeartbeats 40000000 in
theorem rm5c (l : Launch) (Z : State) (a0 : Array Value) (hw : ∀ d ∈ tables_1, d.before a0 Z = true) (ws : List Jvm.Cond) (a1 : Addr) (a2 : Addr) (cs : Int32) (c0 : Int32) (c1 : Int32) (kx1 : ClassId) (h0 : Heap) (n0 : Nat) (Z0 : n0 ≤ h0.size) (g_a1 : n0 ≤ a1) (ne_a1_a2 : a1 ≠ a2) (P0 : Exa Z h0 a1 "java/lang/String") (P1 : Fld Z h0 a1 "java/lang/String" "coder" "B" (.int (0 : Int32))) (P2 : Fld Z h0 a1 "java/lang/String" "value" "[B" .null) (P3 : Arv Z h0 a2 kx1 .char (2 : Int32) [(.int c0), (.int c1)] (.int (0 : Int32))) (P4 : Old Z n0 h0) (SC : Sta Z Z.heap "java/lang/String" "COMPACT_STRINGS" "Z" (.int cs)) (hcs : ¬ cs = (0 : Int32)) (hb0 : 0 ≤ c0.toInt ∧ c0.toInt ≤ 255) (hb1 : 0 ≤ c1.toInt ∧ c1.toInt ≤ 255) :
    MetFree l (⟨"java/lang/String", "<init>", "([CIILjava/lang/Void;)V"⟩ : MethodName) (head1 (Jvm.Cond.code (⟨"java/lang/String", "<init>", "([CIILjava/lang/Void;)V"⟩ : MethodName) jdk_42_method_149_code 6 none :: ws) ({ frames := 2, cells := 1, slots := 2, locals := 35 } : Room)) (fun a U => a = #[(.ref a1), (.ref a2), (.int (0 : Int32)), (.int (2 : Int32)), .null] ∧ Z.Warmed39 U.vm ∧ U.heap = h0) (fun _ _ _ _ _ => True) (fun _ U o U' => ∃ v L, o = .returned v ∧ Q5c Z a1 a2 cs c0 c1 kx1 h0 n0 v U'.heap L ∧ FrameEnd U o U' L ({ frames := 2, cells := 1, slots := 2, locals := 35 } : Room).cells ({ frames := 2, cells := 1, slots := 2, locals := 35 } : Room).slots) := by
  refine MetFree.of_bodySF (plainFor_of_name pn_5) hisR ?_
  intro p e s m args below meth c s₁ Bd hml0 hP hK
  obtain ⟨rfl, hZ, hh⟩ := hP
  have hx := Bd.exec
  have hby := Bd.bytes
  have hml : c.maxLocals = 6 := hml0
  have hown : s.vm.findClass "java/lang/String" = some m.cls := findClass_of_methodNamed Bd.named
  have hnm := (name_of_methodNamed Bd.named Bd.method).1
  have X0 : Stand p l e ({ frames := 2, cells := 1, slots := 2, locals := 35 } : Room) s m #[(.ref a1), (.ref a2), (.int (0 : Int32)), (.int (2 : Int32)), .null] below meth c s₁ [] 0 0 := Stand.of_body Bd
  have e0 : s₁.heap = h0 := by rw [← hh, Bd.state]; rfl
  have N0 := Fr.nil n0
  suffices G0 : ∀ K : State → Prop, (∀ (n : State) (v : Option Value) (L : List Loc), n.status = .running → Ended n below (.returned v) → Q5c Z a1 a2 cs c0 c1 kx1 h0 n0 v n.heap L → FrameEnd s (.returned v) n L ({ frames := 2, cells := 1, slots := 2, locals := 35 } : Room).cells ({ frames := 2, cells := 1, slots := 2, locals := 35 } : Room).slots → K n) → own_Go p e below K (s₁.setTop (mkF m 0 #[.val (.ref a1), .val (.ref a2), .val (.int (0 : Int32)), .val (.int (2 : Int32)), .val .null, .unset] [])) by
    obtain ⟨t, st, o, a, b, v, L, e1, q, fe⟩ := G0 (fun n => ∃ o, n.status = .running ∧ Ended n below o ∧ ∃ v L, o = .returned v ∧ Q5c Z a1 a2 cs c0 c1 kx1 h0 n0 v n.heap L ∧ FrameEnd s o n L ({ frames := 2, cells := 1, slots := 2, locals := 35 } : Room).cells ({ frames := 2, cells := 1, slots := 2, locals := 35 } : Room).slots) (fun n v L a b q f => ⟨_, a, b, v, L, rfl, q, f⟩)
    exact ⟨t, o, castTop (ef_5c m a1 a2 (0 : Int32) (2 : Int32)) st, a, b, v, L, e1, q, fe⟩
  intro K fin
  show own_Go p e below K (s₁.setTop (mkF m 0 #[.val (.ref a1), .val (.ref a2), .val (.int (0 : Int32)), .val (.int (2 : Int32)), .val .null, .unset] []))
  refine own_st (fun t k => XS.aloadN X0.here hx rfl (hb hby d5_0) rfl rfl k) ?_
  show own_Go p e below K (s₁.setTop (mkF m 1 #[.val (.ref a1), .val (.ref a2), .val (.int (0 : Int32)), .val (.int (2 : Int32)), .val .null, .unset] [(.ref a1)]))
  obtain ⟨T1, X1, e1, st1⟩ := initO X0 hx hZ hown (hw _ (List.mem_of_getElem? (i := 25) rfl)) (hw _ (List.mem_of_getElem? (i := 26) rfl)) (hw _ (List.mem_of_getElem? (i := 27) rfl)) e0 (g := (mkF m 1 #[.val (.ref a1), .val (.ref a2), .val (.int (0 : Int32)), .val (.int (2 : Int32)), .val .null, .unset] [(.ref a1)])) rfl (by rw [hml]; rfl) rfl (hb hby d5_1) (by decide) (W := 0) (by show 2 * 0 + _ ≤ _; exact Nat.le_of_eq rfl) (by decide)
  refine own_st st1 ?_
  show own_Go p e below K (T1.setTop (mkF m 4 #[.val (.ref a1), .val (.ref a2), .val (.int (0 : Int32)), .val (.int (2 : Int32)), .val .null, .unset] []))
  try clear st1
  refine own_st (fun t k => XS.iloadN X1.here hx rfl (hb hby d5_4) rfl k) ?_
  show own_Go p e below K (T1.setTop (mkF m 5 #[.val (.ref a1), .val (.ref a2), .val (.int (0 : Int32)), .val (.int (2 : Int32)), .val .null, .unset] [(.int (2 : Int32))]))
  refine own_st (fun t k => XS.ifYes X1.here hx rfl (pc0 := 5) (pc' := 27) rfl (hb hby d5_5) rfl ((if0 _ _).trans (feq (by decide : ¬ ((2 : Int32) = (0 : Int32)))).2) (by decide) (by decide) k) ?_
  show own_Go p e below K (T1.setTop (mkF m 27 #[.val (.ref a1), .val (.ref a2), .val (.int (0 : Int32)), .val (.int (2 : Int32)), .val .null, .unset] []))
  obtain ⟨T2, X2, e2, st2⟩ := getS2 X1 hx hZ hown (host := "") (Or.inl (hw _ (List.mem_of_getElem? (i := 60) rfl))) Via.refl e1 (SC.ext P4.2) (g := (mkF m 27 #[.val (.ref a1), .val (.ref a2), .val (.int (0 : Int32)), .val (.int (2 : Int32)), .val .null, .unset] [])) rfl (hb hby d5_27)
  refine own_st st2 ?_
  show own_Go p e below K (T2.setTop (mkF m 30 #[.val (.ref a1), .val (.ref a2), .val (.int (0 : Int32)), .val (.int (2 : Int32)), .val .null, .unset] [(.int cs)]))
  try clear X1 e1 st2
  refine own_st (fun t k => XS.ifNo X2.here hx rfl (hb hby d5_30) rfl ((if0 _ _).trans (feq (hcs : ¬ (cs = (0 : Int32)))).1) k) ?_
  show own_Go p e below K (T2.setTop (mkF m 33 #[.val (.ref a1), .val (.ref a2), .val (.int (0 : Int32)), .val (.int (2 : Int32)), .val .null, .unset] []))
  refine own_st (fun t k => XS.aloadN X2.here hx rfl (hb hby d5_33) rfl rfl k) ?_
  show own_Go p e below K (T2.setTop (mkF m 34 #[.val (.ref a1), .val (.ref a2), .val (.int (0 : Int32)), .val (.int (2 : Int32)), .val .null, .unset] [(.ref a2)]))
  refine own_st (fun t k => XS.iloadN X2.here hx rfl (hb hby d5_34) rfl k) ?_
  show own_Go p e below K (T2.setTop (mkF m 35 #[.val (.ref a1), .val (.ref a2), .val (.int (0 : Int32)), .val (.int (2 : Int32)), .val .null, .unset] [(.int (0 : Int32)), (.ref a2)]))
  refine own_st (fun t k => XS.iloadN X2.here hx rfl (hb hby d5_35) rfl k) ?_
  show own_Go p e below K (T2.setTop (mkF m 36 #[.val (.ref a1), .val (.ref a2), .val (.int (0 : Int32)), .val (.int (2 : Int32)), .val .null, .unset] [(.int (2 : Int32)), (.int (0 : Int32)), (.ref a2)]))
  obtain ⟨_, _, ⟨T3, L3, k3, n3⟩, -, X3, ⟨Lc3, hQ3, l3, y3, z3⟩, st3⟩ := Jvm.LawKit.callS X2 hx (y := (⟨"java/lang/StringUTF16", "compress", "([CII)[B"⟩ : MethodName)) hown (mvT hZ (hw _ (List.mem_of_getElem? (i := 67) rfl))) (mvT hZ (hw _ (List.mem_of_getElem? (i := 68) rfl))) (mvT hZ (hw _ (List.mem_of_getElem? (i := 69) rfl))) (mvT hZ (hw _ (List.mem_of_getElem? (i := 70) rfl))) (by decide) (backOf (W := 0) (rm12 l Z a0 hw [] a2 (c0) (c1) (kx1) h0 n0 Z0 P3 (by assumption) (by assumption)) hZ (hw _ (List.mem_of_getElem? (i := 70) rfl)) (hw _ (List.mem_of_getElem? (i := 69) rfl)) (by decide) (by decide)) (g := (mkF m 36 #[.val (.ref a1), .val (.ref a2), .val (.int (0 : Int32)), .val (.int (2 : Int32)), .val .null, .unset] [(.int (2 : Int32)), (.int (0 : Int32)), (.ref a2)])) rfl (by rw [hml]; rfl) (argsL := [(.ref a2), (.int (0 : Int32)), (.int (2 : Int32))]) (rest := []) (lenOf pd_5_10 rfl) rfl (by show 2 * 0 + _ ≤ _; exact Nat.le_of_eq rfl) (hb hby d5_36) (fun _ _ => ⟨rfl, e2, (by decide : 0 + 1 ≤ _), (by decide : 0 + 2 ≤ _)⟩)
  dsimp only [Pt.U, Pt.locs, Pt.cells, Pt.slots] at X3 l3 y3 z3 st3 hQ3
  obtain ⟨r3, k_3, rfl, hr3, fr3, N3q, Kq3, p3_0⟩ := hQ3
  have N3 : Fr n0 L3 := by rw [l3]; exact Fr.app N0 N3q
  clear l3
  have y3' : k3 = 1 := y3
  have z3' : n3 = 2 := z3
  clear y3 z3
  subst y3' z3'
  have ne_a1_r3 : a1 ≠ r3 := Nat.ne_of_lt (Nat.lt_of_lt_of_le P0.lt fr3)
  have ne_a2_r3 : a2 ≠ r3 := Nat.ne_of_lt (Nat.lt_of_lt_of_le P3.lt fr3)
  have g_r3 : n0 ≤ r3 := Nat.le_trans Z0 fr3
  have sz_r3 : h0.size ≤ r3 := Nat.le_trans (Keep.refl h0 [a1]).1 fr3
  have f4 : Exa Z T3.heap a1 "java/lang/String" := P0.keep Kq3
  have f5 : Fld Z T3.heap a1 "java/lang/String" "coder" "B" (.int (0 : Int32)) := P1.keep Kq3 nin0
  have f6 : Fld Z T3.heap a1 "java/lang/String" "value" "[B" .null := P2.keep Kq3 nin0
  have f7 : Arv Z T3.heap a2 kx1 .char (2 : Int32) [(.int c0), (.int c1)] (.int (0 : Int32)) := P3.keep Kq3 nin0
  have f8 : Old Z n0 T3.heap := P4.keep Kq3 all0
  have Z3 : n0 ≤ T3.heap.size := Nat.le_trans Z0 Kq3.1
  have K3 : Keep h0 T3.heap [a1] := (Keep.refl h0 [a1]).trans Kq3 all0
  refine own_st st3 ?_
  show own_Go p e below K (T3.setTop (mkF m 39 #[.val (.ref a1), .val (.ref a2), .val (.int (0 : Int32)), .val (.int (2 : Int32)), .val .null, .unset] [(.ref r3)]))
  try clear X2 e2 st3 N3q P0 P1 P2 P3 P4
  refine own_st (fun t k => XS.astore X3.here hx rfl (hb hby d5_39) rfl rfl (l' := #[.val (.ref a1), .val (.ref a2), .val (.int (0 : Int32)), .val (.int (2 : Int32)), .val .null, .val (.ref r3)]) rfl k) ?_
  show own_Go p e below K (T3.setTop (mkF m 41 #[.val (.ref a1), .val (.ref a2), .val (.int (0 : Int32)), .val (.int (2 : Int32)), .val .null, .val (.ref r3)] []))
  refine own_st (fun t k => XS.aloadN X3.here hx rfl (hb hby d5_41) rfl rfl k) ?_
  show own_Go p e below K (T3.setTop (mkF m 42 #[.val (.ref a1), .val (.ref a2), .val (.int (0 : Int32)), .val (.int (2 : Int32)), .val .null, .val (.ref r3)] [(.ref a1)]))
  refine own_st (fun t k => XS.aload X3.here hx rfl (hb hby d5_42) rfl rfl k) ?_
  show own_Go p e below K (T3.setTop (mkF m 44 #[.val (.ref a1), .val (.ref a2), .val (.int (0 : Int32)), .val (.int (2 : Int32)), .val .null, .val (.ref r3)] [(.ref r3), (.ref a1)]))
  refine own_st (fun t k => XS.iloadN X3.here hx rfl (hb hby d5_44) rfl k) ?_
  show own_Go p e below K (T3.setTop (mkF m 45 #[.val (.ref a1), .val (.ref a2), .val (.int (0 : Int32)), .val (.int (2 : Int32)), .val .null, .val (.ref r3)] [(.int (2 : Int32)), (.ref r3), (.ref a1)]))
  obtain ⟨_, _, ⟨T9, L9, k9, n9⟩, -, X9, ⟨Lc9, hQ9, l9, y9, z9⟩, st9⟩ := Jvm.LawKit.callS X3 hx (y := (⟨"java/lang/StringUTF16", "coderFromArrayLen", "([BI)B"⟩ : MethodName)) hown (mvT hZ (hw _ (List.mem_of_getElem? (i := 74) rfl))) (mvT hZ (hw _ (List.mem_of_getElem? (i := 75) rfl))) (mvT hZ (hw _ (List.mem_of_getElem? (i := 69) rfl))) (mvT hZ (hw _ (List.mem_of_getElem? (i := 76) rfl))) (by decide) (backOf (W := 1) (rm14 l Z a0 hw [] r3 (k_3) ((c0.toInt8.toInt32)) ((c1.toInt8.toInt32)) T3.heap n0 Z3 p3_0) hZ (hw _ (List.mem_of_getElem? (i := 76) rfl)) (hw _ (List.mem_of_getElem? (i := 69) rfl)) (by decide) (by decide)) (g := (mkF m 45 #[.val (.ref a1), .val (.ref a2), .val (.int (0 : Int32)), .val (.int (2 : Int32)), .val .null, .val (.ref r3)] [(.int (2 : Int32)), (.ref r3), (.ref a1)])) rfl (by rw [hml]; rfl) (argsL := [(.ref r3), (.int (2 : Int32))]) (rest := [(.ref a1)]) (lenOf pd_5_12 rfl) rfl (by show 2 * 0 + _ ≤ _; exact Nat.le_of_eq rfl) (hb hby d5_45) (fun _ _ => ⟨rfl, rfl, (by decide : 1 + 0 ≤ _), (by decide : 2 + 0 ≤ _)⟩)
  dsimp only [Pt.U, Pt.locs, Pt.cells, Pt.slots] at X9 l9 y9 z9 st9 hQ9
  obtain ⟨r9, rfl, hr9, N9q, e9⟩ := hQ9
  have N9 : Fr n0 L9 := by rw [l9]; exact Fr.app N3 N9q
  clear l9
  have y9' : k9 = 1 := y9
  have z9' : n9 = 2 := z9
  clear y9 z9
  subst y9' z9'
  refine own_st st9 ?_
  show own_Go p e below K (T9.setTop (mkF m 48 #[.val (.ref a1), .val (.ref a2), .val (.int (0 : Int32)), .val (.int (2 : Int32)), .val .null, .val (.ref r3)] [(.int r9), (.ref a1)]))
  subst hr9
  try clear X3 st9 N3 N9q
  obtain ⟨T10, h10, X10, e10, W10, st10⟩ := putFN X9 hx hZ hown (hw _ (List.mem_of_getElem? (i := 35) rfl)) Via.refl e9 f5 f4 (Or.inr ⟨(hw _ (List.mem_of_getElem? (i := 31) rfl)), rfl, hnm⟩) (hw _ (List.mem_of_getElem? (i := 15) rfl)) (ty := .byte) (v' := .int (0 : Int32).toInt8.toInt32) (by decide) rfl (fits_nar_byte _) (g := (mkF m 48 #[.val (.ref a1), .val (.ref a2), .val (.int (0 : Int32)), .val (.int (2 : Int32)), .val .null, .val (.ref r3)] [(.int (0 : Int32)), (.ref a1)])) rfl rfl (hb hby d5_48)
  have fw10 : Fld Z h10 a1 "java/lang/String" "coder" "B" (.int (0 : Int32).toInt8.toInt32) := f5.same W10
  have f11 : Exa Z h10 a1 "java/lang/String" := f4.wr W10
  have f12 : Fld Z h10 a1 "java/lang/String" "value" "[B" .null := f6.other W10 (Or.inr (slot_ne (Or.inr (hw _ (List.mem_of_getElem? (i := 30) rfl))) (Or.inr (hw _ (List.mem_of_getElem? (i := 31) rfl))) (by decide) (t := (.array .byte)) (t' := .byte) (by decide) (by decide)))
  have f13 : Arv Z h10 a2 kx1 .char (2 : Int32) [(.int c0), (.int c1)] (.int (0 : Int32)) := f7.other W10 (Ne.symm ne_a1_a2)
  have f14 : Old Z n0 h10 := f8.wr W10 g_a1
  have f15 : Arv Z h10 r3 k_3 .byte (2 : Int32) [(.int (c0.toInt8.toInt32)), (.int (c1.toInt8.toInt32))] (.int (0 : Int32)) := p3_0.other W10 (Ne.symm ne_a1_r3)
  have N10 := Fr.snoc X10 N9 g_a1
  have Z10 : n0 ≤ h10.size := Nat.le_trans Z3 (Keep.of_wr W10).1
  have K10 : Keep h0 h10 [a1] := K3.wr W10 (Or.inl (List.mem_of_getElem? (i := 0) rfl))
  refine own_st st10 ?_
  show own_Go p e below K (T10.setTop (mkF m 51 #[.val (.ref a1), .val (.ref a2), .val (.int (0 : Int32)), .val (.int (2 : Int32)), .val .null, .val (.ref r3)] []))
  try clear X9 e9 st10 f4 f6 f7 f8 p3_0
  refine own_st (fun t k => XS.aloadN X10.here hx rfl (hb hby d5_51) rfl rfl k) ?_
  show own_Go p e below K (T10.setTop (mkF m 52 #[.val (.ref a1), .val (.ref a2), .val (.int (0 : Int32)), .val (.int (2 : Int32)), .val .null, .val (.ref r3)] [(.ref a1)]))
  refine own_st (fun t k => XS.aload X10.here hx rfl (hb hby d5_52) rfl rfl k) ?_
  show own_Go p e below K (T10.setTop (mkF m 54 #[.val (.ref a1), .val (.ref a2), .val (.int (0 : Int32)), .val (.int (2 : Int32)), .val .null, .val (.ref r3)] [(.ref r3), (.ref a1)]))
  obtain ⟨T16, h16, X16, e16, W16, st16⟩ := putF X10 hx hZ hown (host := "") (Or.inl (hw _ (List.mem_of_getElem? (i := 34) rfl))) Via.refl e10 f12 f11 (Or.inr ⟨(hw _ (List.mem_of_getElem? (i := 30) rfl)), rfl, hnm⟩) (hw _ (List.mem_of_getElem? (i := 15) rfl)) (ty := (.array .byte)) (by decide) rfl rfl (g := (mkF m 54 #[.val (.ref a1), .val (.ref a2), .val (.int (0 : Int32)), .val (.int (2 : Int32)), .val .null, .val (.ref r3)] [(.ref r3), (.ref a1)])) rfl rfl (hb hby d5_54)
  have fw16 : Fld Z h16 a1 "java/lang/String" "value" "[B" (.ref r3) := f12.same W16
  have f17 : Exa Z h16 a1 "java/lang/String" := f11.wr W16
  have f18 : Fld Z h16 a1 "java/lang/String" "coder" "B" (.int (0 : Int32).toInt8.toInt32) := fw10.other W16 (Or.inr (slot_ne (Or.inr (hw _ (List.mem_of_getElem? (i := 31) rfl))) (Or.inr (hw _ (List.mem_of_getElem? (i := 30) rfl))) (by decide) (t := .byte) (t' := (.array .byte)) (by decide) (by decide)))
  have f19 : Arv Z h16 a2 kx1 .char (2 : Int32) [(.int c0), (.int c1)] (.int (0 : Int32)) := f13.other W16 (Ne.symm ne_a1_a2)
  have f20 : Old Z n0 h16 := f14.wr W16 g_a1
  have f21 : Arv Z h16 r3 k_3 .byte (2 : Int32) [(.int (c0.toInt8.toInt32)), (.int (c1.toInt8.toInt32))] (.int (0 : Int32)) := f15.other W16 (Ne.symm ne_a1_r3)
  have N16 := Fr.snoc X16 N10 g_a1
  have Z16 : n0 ≤ h16.size := Nat.le_trans Z10 (Keep.of_wr W16).1
  have K16 : Keep h0 h16 [a1] := K10.wr W16 (Or.inl (List.mem_of_getElem? (i := 0) rfl))
  refine own_st st16 ?_
  show own_Go p e below K (T16.setTop (mkF m 57 #[.val (.ref a1), .val (.ref a2), .val (.int (0 : Int32)), .val (.int (2 : Int32)), .val .null, .val (.ref r3)] []))
  try clear X10 e10 st16 f11 fw10 f13 f14 f15
  obtain ⟨fs, hr, hrun, hended, hW, hsame⟩ := X16.leave (v := none) (fun _ => rfl)
  refine ⟨_, X16.returnOut hx Bd.returns (hb hby d5_57) hr, fin _ _ _ hrun hended ?_ ⟨⟨_, rfl⟩, hW, hsame.mono (by decide) (by decide)⟩⟩
  show Q5c Z a1 a2 cs c0 c1 kx1 h0 n0 _ T16.heap _
  rw [e16]
  exact ⟨r3, k_3, rfl, N16, K16, f17, (own_z8 f18), fw16, f21⟩
theorem d4_0 : decode jdk_42_method_3_code 0 = .ok (.aload_n 0, 1) := by decide +kernel
theorem d4_1 : decode jdk_42_method_3_code 1 = .ok (.aload_n 1, 1) := by decide +kernel
theorem d4_2 : decode jdk_42_method_3_code 2 = .ok (.iconst 0, 1) := by decide +kernel
theorem d4_3 : decode jdk_42_method_3_code 3 = .ok (.aload_n 1, 1) := by decide +kernel
theorem d4_4 : decode jdk_42_method_3_code 4 = .ok (.arraylength, 1) := by decide +kernel
theorem d4_5 : decode jdk_42_method_3_code 5 = .ok (.aconst_null, 1) := by decide +kernel
theorem d4_6 : decode jdk_42_method_3_code 6 = .ok (.invokespecial 27, 3) := by decide +kernel
theorem d4_9 : decode jdk_42_method_3_code 9 = .ok (.return_, 1) := by decide +kernel
theorem pn_4 : plainName "java/lang/String" = true := by first | (simp [plainName, overriddenIn]; done) | decide +kernel
theorem pd_4_4 : parseMethodDescriptor "([CIILjava/lang/Void;)V" = some ⟨[(.array .char), .int, .int, (.object "java/lang/Void")], none⟩ := by decide +kernel
theorem ef_4c (m : MethodId) (x0 : Addr) (x1 : Addr) : entryFrame m #[(.ref x0), (.ref x1)] 2 = mkF m 0 #[.val (.ref x0), .val (.ref x1)] [] := by first | (simp [entryFrame, mkF, argsToLocals, Value.category]; done) | rfl
def Q4c (Z : State) (a1 : Addr) (a2 : Addr) (cs : Int32) (c0 : Int32) (c1 : Int32) (kx1 : ClassId) (h0 : Heap) (n0 : Nat) (v : Option Value) (h : Heap) (L : List Loc) : Prop := ∃ (b : Addr) (k : ClassId), v = none ∧ Fr n0 L ∧ Keep h0 h [a1] ∧ (Exa Z h a1 "java/lang/String") ∧ (Fld Z h a1 "java/lang/String" "coder" "B" (.int (0 : Int32))) ∧ (Fld Z h a1 "java/lang/String" "value" "[B" (.ref b)) ∧ (Arv Z h b k .byte (2 : Int32) [(.int (c0.toInt8.toInt32)), (.int (c1.toInt8.toInt32))] (.int (0 : Int32)))
set_option maxRecDepth 65536 in
set_option maxHeartbeats 40000000 in
theorem rm4c (l : Launch) (Z : State) (a0 : Array Value) (hw : ∀ d ∈ tables_1, d.before a0 Z = true) (ws : List Jvm.Cond) (a1 : Addr) (a2 : Addr) (cs : Int32) (c0 : Int32) (c1 : Int32) (kx1 : ClassId) (h0 : Heap) (n0 : Nat) (Z0 : n0 ≤ h0.size) (g_a1 : n0 ≤ a1) (ne_a1_a2 : a1 ≠ a2) (P0 : Exa Z h0 a1 "java/lang/String") (P1 : Fld Z h0 a1 "java/lang/String" "coder" "B" (.int (0 : Int32))) (P2 : Fld Z h0 a1 "java/lang/String" "value" "[B" .null) (P3 : Arv Z h0 a2 kx1 .char (2 : Int32) [(.int c0), (.int c1)] (.int (0 : Int32))) (P4 : Old Z n0 h0) (SC : Sta Z Z.heap "java/lang/String" "COMPACT_STRINGS" "Z" (.int cs)) (hcs : ¬ cs = (0 : Int32)) (hb0 : 0 ≤ c0.toInt ∧ c0.toInt ≤ 255) (hb1 : 0 ≤ c1.toInt ∧ c1.toInt ≤ 255) :
    MetFree l (⟨"java/lang/String", "<init>", "([C)V"⟩ : MethodName) (head1 (Jvm.Cond.code (⟨"java/lang/String", "<init>", "([C)V"⟩ : MethodName) jdk_42_method_3_code 2 none :: ws) ({ frames := 3, cells := 1, slots := 2, locals := 52 } : Room)) (fun a U => a = #[(.ref a1), (.ref a2)] ∧ Z.Warmed39 U.vm ∧ U.heap = h0) (fun _ _ _ _ _ => True) (fun _ U o U' => ∃ v L, o = .returned v ∧ Q4c Z a1 a2 cs c0 c1 kx1 h0 n0 v U'.heap L ∧ FrameEnd U o U' L ({ frames := 3, cells := 1, slots := 2, locals := 52 } : Room).cells ({ frames := 3, cells := 1, slots := 2, locals := 52 } : Room).slots) := by
  refine MetFree.of_bodySF (plainFor_of_name pn_4) hisR ?_
  intro p e s m args below meth c s₁ Bd hml0 hP hK
  obtain ⟨rfl, hZ, hh⟩ := hP
  have hx := Bd.exec
  have hby := Bd.bytes
  have hml : c.maxLocals = 2 := hml0
  have hown : s.vm.findClass "java/lang/String" = some m.cls := findClass_of_methodNamed Bd.named
  have hnm := (name_of_methodNamed Bd.named Bd.method).1
  have X0 : Stand p l e ({ frames := 3, cells := 1, slots := 2, locals := 52 } : Room) s m #[(.ref a1), (.ref a2)] below meth c s₁ [] 0 0 := Stand.of_body Bd
  have e0 : s₁.heap = h0 := by rw [← hh, Bd.state]; rfl
  have N0 := Fr.nil n0
  suffices G0 : ∀ K : State → Prop, (∀ (n : State) (v : Option Value) (L : List Loc), n.status = .running → Ended n below (.returned v) → Q4c Z a1 a2 cs c0 c1 kx1 h0 n0 v n.heap L → FrameEnd s (.returned v) n L ({ frames := 3, cells := 1, slots := 2, locals := 52 } : Room).cells ({ frames := 3, cells := 1, slots := 2, locals := 52 } : Room).slots → K n) → own_Go p e below K (s₁.setTop (mkF m 0 #[.val (.ref a1), .val (.ref a2)] [])) by
    obtain ⟨t, st, o, a, b, v, L, e1, q, fe⟩ := G0 (fun n => ∃ o, n.status = .running ∧ Ended n below o ∧ ∃ v L, o = .returned v ∧ Q4c Z a1 a2 cs c0 c1 kx1 h0 n0 v n.heap L ∧ FrameEnd s o n L ({ frames := 3, cells := 1, slots := 2, locals := 52 } : Room).cells ({ frames := 3, cells := 1, slots := 2, locals := 52 } : Room).slots) (fun n v L a b q f => ⟨_, a, b, v, L, rfl, q, f⟩)
    exact ⟨t, o, castTop (ef_4c m a1 a2) st, a, b, v, L, e1, q, fe⟩
  intro K fin
  show own_Go p e below K (s₁.setTop (mkF m 0 #[.val (.ref a1), .val (.ref a2)] []))
  refine own_st (fun t k => XS.aloadN X0.here hx rfl (hb hby d4_0) rfl rfl k) ?_
  show own_Go p e below K (s₁.setTop (mkF m 1 #[.val (.ref a1), .val (.ref a2)] [(.ref a1)]))
  refine own_st (fun t k => XS.aloadN X0.here hx rfl (hb hby d4_1) rfl rfl k) ?_
  show own_Go p e below K (s₁.setTop (mkF m 2 #[.val (.ref a1), .val (.ref a2)] [(.ref a2), (.ref a1)]))
  refine own_st (fun t k => XS.iconst X0.here hx rfl (hb hby d4_2) k) ?_
  show own_Go p e below K (s₁.setTop (mkF m 3 #[.val (.ref a1), .val (.ref a2)] [(.int (0 : Int32)), (.ref a2), (.ref a1)]))
  refine own_st (fun t k => XS.aloadN X0.here hx rfl (hb hby d4_3) rfl rfl k) ?_
  show own_Go p e below K (s₁.setTop (mkF m 4 #[.val (.ref a1), .val (.ref a2)] [(.ref a2), (.int (0 : Int32)), (.ref a2), (.ref a1)]))
  obtain ⟨cl1, Ar1, -, Sa1, Ma1, -, -⟩ := id P3
  refine own_st (X0.arraylength hx (own_hat e0 Ar1.1) (State.isArrayOf_alike hZ.alike Ar1.2.1) (g := (mkF m 4 #[.val (.ref a1), .val (.ref a2)] [(.ref a2), (.int (0 : Int32)), (.ref a2), (.ref a1)])) rfl rfl (hb hby d4_4)) ?_
  rw [len_of Sa1 Ma1]
  show own_Go p e below K (s₁.setTop (mkF m 5 #[.val (.ref a1), .val (.ref a2)] [(.int (2 : Int32)), (.int (0 : Int32)), (.ref a2), (.ref a1)]))
  refine own_st (fun t k => XS.aconstNull X0.here hx rfl (hb hby d4_5) k) ?_
  show own_Go p e below K (s₁.setTop (mkF m 6 #[.val (.ref a1), .val (.ref a2)] [.null, (.int (2 : Int32)), (.int (0 : Int32)), (.ref a2), (.ref a1)]))
  obtain ⟨_, _, ⟨T2, L2, k2, n2⟩, -, X2, ⟨Lc2, hQ2, l2, y2, z2⟩, st2⟩ := X0.specialBack hx (y := (⟨"java/lang/String", "<init>", "([CIILjava/lang/Void;)V"⟩ : MethodName)) rfl hown (mvT hZ (hw _ (List.mem_of_getElem? (i := 21) rfl))) (mvT hZ (hw _ (List.mem_of_getElem? (i := 22) rfl))) (mvT hZ (hw _ (List.mem_of_getElem? (i := 24) rfl))) (by decide) (backOf (W := 0) (rm5c l Z a0 hw [] a1 a2 (cs) (c0) (c1) (kx1) h0 n0 Z0 g_a1 ne_a1_a2 P0 P1 P2 P3 P4 (by assumption) (by assumption) (by assumption) (by assumption)) hZ (hw _ (List.mem_of_getElem? (i := 24) rfl)) (hw _ (List.mem_of_getElem? (i := 16) rfl)) (by decide) (by decide)) (g := (mkF m 6 #[.val (.ref a1), .val (.ref a2)] [.null, (.int (2 : Int32)), (.int (0 : Int32)), (.ref a2), (.ref a1)])) rfl (by rw [hml]; rfl) (Steps.refl _) (a := a1) (argsL := [(.ref a2), (.int (0 : Int32)), (.int (2 : Int32)), .null]) (rest := []) (lenOf pd_4_4 rfl) rfl (by show 2 * 0 + _ ≤ _; exact Nat.le_of_eq rfl) (hb hby d4_6) (fun _ _ => ⟨rfl, e0, (by decide : 0 + 1 ≤ _), (by decide : 0 + 2 ≤ _)⟩)
  dsimp only [Pt.U, Pt.locs, Pt.cells, Pt.slots] at X2 l2 y2 z2 st2 hQ2
  obtain ⟨b_2, k_2, rfl, N2q, Kq2, p2_0, p2_1, p2_2, p2_3⟩ := hQ2
  have N2 : Fr n0 L2 := by rw [l2]; exact Fr.app N0 N2q
  clear l2
  have y2' : k2 = 1 := y2
  have z2' : n2 = 2 := z2
  clear y2 z2
  subst y2' z2'
  have f3 : Arv Z T2.heap a2 kx1 .char (2 : Int32) [(.int c0), (.int c1)] (.int (0 : Int32)) := P3.keep Kq2 (ninS (Ne.symm ne_a1_a2) nin0)
  have f4 : Old Z n0 T2.heap := P4.keep Kq2 (allS (P := fun x => n0 ≤ x) g_a1 all0)
  have Z2 : n0 ≤ T2.heap.size := Nat.le_trans Z0 Kq2.1
  have K2 : Keep h0 T2.heap [a1] := (Keep.refl h0 [a1]).trans Kq2 (allS (P := fun x => x ∈ [a1] ∨ h0.size ≤ x) (Or.inl (List.mem_of_getElem? (i := 0) rfl)) all0)
  refine own_tr st2 ?_
  show own_Go p e below K (T2.setTop (mkF m 9 #[.val (.ref a1), .val (.ref a2)] []))
  try clear st2 N2q P3 P4
  obtain ⟨fs, hr, hrun, hended, hW, hsame⟩ := X2.leave (v := none) (fun _ => rfl)
  refine ⟨_, X2.returnOut hx Bd.returns (hb hby d4_9) hr, fin _ _ _ hrun hended ?_ ⟨⟨_, rfl⟩, hW, hsame.mono (by decide) (by decide)⟩⟩
  show Q4c Z a1 a2 cs c0 c1 kx1 h0 n0 _ T2.heap _
  exact ⟨b_2, k_2, rfl, N2, K2, p2_0, p2_1, p2_2, p2_3⟩
theorem d5_8 : decode jdk_42_method_149_code 8 = .ok (.aload_n 0, 1) := by decide +kernel
theorem d5_9 : decode jdk_42_method_149_code 9 = .ok (.ldc 7, 2) := by decide +kernel
theorem d5_11 : decode jdk_42_method_149_code 11 = .ok (.getfield 9, 3) := by decide +kernel
theorem d5_14 : decode jdk_42_method_149_code 14 = .ok (.putfield 9, 3) := by decide +kernel
theorem d5_17 : decode jdk_42_method_149_code 17 = .ok (.aload_n 0, 1) := by decide +kernel
theorem d5_18 : decode jdk_42_method_149_code 18 = .ok (.ldc 7, 2) := by decide +kernel
theorem d5_20 : decode jdk_42_method_149_code 20 = .ok (.getfield 15, 3) := by decide +kernel
theorem d5_23 : decode jdk_42_method_149_code 23 = .ok (.putfield 15, 3) := by decide +kernel
theorem d5_26 : decode jdk_42_method_149_code 26 = .ok (.return_, 1) := by decide +kernel
theorem ef_5w (m : MethodId) (x0 : Addr) (x1 : Addr) (x2 : Int32) (x3 : Int32) : entryFrame m #[(.ref x0), (.ref x1), (.int x2), (.int x3), .null] 6 = mkF m 0 #[.val (.ref x0), .val (.ref x1), .val (.int x2), .val (.int x3), .val .null, .unset] [] := by first | (simp [entryFrame, mkF, argsToLocals, Value.category]; done) | rfl
def Q5w (Z : State) (a1 : Addr) (a2 : Addr) (h0 : Heap) (n0 : Nat) (v : Option Value) (h : Heap) (vm : Vm) (L : List Loc) : Prop := ∃ (b : Addr) (k : ClassId), v = none ∧ Fr n0 L ∧ Keep h0 h [a1] ∧ (Exa Z h a1 "java/lang/String") ∧ (Fld Z h a1 "java/lang/String" "coder" "B" (.int (0 : Int32))) ∧ (Fld Z h a1 "java/lang/String" "value" "[B" (.ref b)) ∧ (Arv Z h b k .byte (0 : Int32) [] (.int (0 : Int32))) ∧ own_W Z vm h
set_option maxRecDepth 65536 in
set_option maxHeartbeats 40000000 in
theorem rm5w (l : Launch) (Z : State) (a0 : Array Value) (hw : ∀ d ∈ tables_1, d.before a0 Z = true) (ws : List Jvm.Cond) (a1 : Addr) (a2 : Addr) (h0 : Heap) (n0 : Nat) (Z0 : n0 ≤ h0.size) (g_a1 : n0 ≤ a1) (P0 : Exa Z h0 a1 "java/lang/String") (P1 : Fld Z h0 a1 "java/lang/String" "coder" "B" (.int (0 : Int32))) (P2 : Fld Z h0 a1 "java/lang/String" "value" "[B" .null) (P3 : Old Z n0 h0) (hcH : Jvm.Lit.constHeld Z "java/lang/String" 7) (hcW : Jvm.Lit.compactW.before a0 Z = true) :
    MetFree l (⟨"java/lang/String", "<init>", "([CIILjava/lang/Void;)V"⟩ : MethodName) (head1 (Jvm.Cond.code (⟨"java/lang/String", "<init>", "([CIILjava/lang/Void;)V"⟩ : MethodName) jdk_42_method_149_code 6 none :: ws) ({ frames := 1, cells := 2, slots := 4, locals := 12 } : Room)) (fun a U => a = #[(.ref a1), (.ref a2), (.int (0 : Int32)), (.int (0 : Int32)), .null] ∧ Z.Warmed39 U.vm ∧ U.heap = h0 ∧ own_W Z U.vm h0) (fun _ _ _ _ _ => True) (fun _ U o U' => ∃ v L, o = .returned v ∧ Q5w Z a1 a2 h0 n0 v U'.heap U'.vm L ∧ ReturnedEndW U o U' L ({ frames := 1, cells := 2, slots := 4, locals := 12 } : Room).cells ({ frames := 1, cells := 2, slots := 4, locals := 12 } : Room).slots) := by
  refine MetFree.of_bodySF (plainFor_of_name pn_5) hisR ?_
  intro p e s m args below meth c s₁ Bd hml0 hP hK
  obtain ⟨rfl, hZ, hh, hW0⟩ := hP
  have hx := Bd.exec
  have hby := Bd.bytes
  have hml : c.maxLocals = 6 := hml0
  have hown : s.vm.findClass "java/lang/String" = some m.cls := findClass_of_methodNamed Bd.named
  have hnm := (name_of_methodNamed Bd.named Bd.method).1
  have X0 : Stand p l e ({ frames := 1, cells := 2, slots := 4, locals := 12 } : Room) s m #[(.ref a1), (.ref a2), (.int (0 : Int32)), (.int (0 : Int32)), .null] below meth c s₁ [] 0 0 := Stand.of_body Bd
  have e0 : s₁.heap = h0 := by rw [← hh, Bd.state]; rfl
  have N0 := Fr.nil n0
  have hS0 := own_s0 s
  have hG0 : own_G 0 h0 := Nat.zero_le _
  suffices G0 : ∀ K : State → Prop, (∀ (n : State) (v : Option Value) (L : List Loc), n.status = .running → Ended n below (.returned v) → Q5w Z a1 a2 h0 n0 v n.heap n.vm L → ReturnedEndW s (.returned v) n L ({ frames := 1, cells := 2, slots := 4, locals := 12 } : Room).cells ({ frames := 1, cells := 2, slots := 4, locals := 12 } : Room).slots → K n) → own_Go p e below K (s₁.setTop (mkF m 0 #[.val (.ref a1), .val (.ref a2), .val (.int (0 : Int32)), .val (.int (0 : Int32)), .val .null, .unset] [])) by
    obtain ⟨t, st, o, a, b, v, L, e1, q, fe⟩ := G0 (fun n => ∃ o, n.status = .running ∧ Ended n below o ∧ ∃ v L, o = .returned v ∧ Q5w Z a1 a2 h0 n0 v n.heap n.vm L ∧ ReturnedEndW s o n L ({ frames := 1, cells := 2, slots := 4, locals := 12 } : Room).cells ({ frames := 1, cells := 2, slots := 4, locals := 12 } : Room).slots) (fun n v L a b q f => ⟨_, a, b, v, L, rfl, q, f⟩)
    exact ⟨t, o, castTop (ef_5w m a1 a2 (0 : Int32) (0 : Int32)) st, a, b, v, L, e1, q, fe⟩
  intro K fin
  show own_Go p e below K (s₁.setTop (mkF m 0 #[.val (.ref a1), .val (.ref a2), .val (.int (0 : Int32)), .val (.int (0 : Int32)), .val .null, .unset] []))
  rcases hW0 with hI0 | ⟨la, lb, lk, hL0, xE, xC, xV, xA⟩
  · show own_Go p e below K (s₁.setTop (mkF m 0 #[.val (.ref a1), .val (.ref a2), .val (.int (0 : Int32)), .val (.int (0 : Int32)), .val .null, .unset] []))
    refine own_st (fun t k => XS.aloadN X0.here hx rfl (hb hby d5_0) rfl rfl k) ?_
    show own_Go p e below K (s₁.setTop (mkF m 1 #[.val (.ref a1), .val (.ref a2), .val (.int (0 : Int32)), .val (.int (0 : Int32)), .val .null, .unset] [(.ref a1)]))
    obtain ⟨T1, X1, e1, st1⟩ := initO X0 hx hZ hown (hw _ (List.mem_of_getElem? (i := 25) rfl)) (hw _ (List.mem_of_getElem? (i := 26) rfl)) (hw _ (List.mem_of_getElem? (i := 27) rfl)) e0 (g := (mkF m 1 #[.val (.ref a1), .val (.ref a2), .val (.int (0 : Int32)), .val (.int (0 : Int32)), .val .null, .unset] [(.ref a1)])) rfl (by rw [hml]; rfl) rfl (hb hby d5_1) (by decide) (W := 0) (by show 2 * 0 + _ ≤ _; exact Nat.le_of_eq rfl) (by decide)
    refine own_st st1 ?_
    show own_Go p e below K (T1.setTop (mkF m 4 #[.val (.ref a1), .val (.ref a2), .val (.int (0 : Int32)), .val (.int (0 : Int32)), .val .null, .unset] []))
    try clear st1
    refine own_st (fun t k => XS.iloadN X1.here hx rfl (hb hby d5_4) rfl k) ?_
    show own_Go p e below K (T1.setTop (mkF m 5 #[.val (.ref a1), .val (.ref a2), .val (.int (0 : Int32)), .val (.int (0 : Int32)), .val .null, .unset] [(.int (0 : Int32))]))
    refine own_st (fun t k => XS.ifNo X1.here hx rfl (hb hby d5_5) rfl ((if0 _ _).trans (teq (by decide : (0 : Int32) = (0 : Int32))).2) k) ?_
    show own_Go p e below K (T1.setTop (mkF m 8 #[.val (.ref a1), .val (.ref a2), .val (.int (0 : Int32)), .val (.int (0 : Int32)), .val .null, .unset] []))
    refine own_st (fun t k => XS.aloadN X1.here hx rfl (hb hby d5_8) rfl rfl k) ?_
    show own_Go p e below K (T1.setTop (mkF m 9 #[.val (.ref a1), .val (.ref a2), .val (.int (0 : Int32)), .val (.int (0 : Int32)), .val .null, .unset] [(.ref a1)]))
    obtain ⟨la2, T2, h2, k2, lb2, lk2, X2, e2, E2, hS2, hG2, hZ2, hown2, xE2, xC2, xV2, xA2, -, -, -, hL2, st2⟩ := ldcSVL (s := s) (vm0 := s.vm) X1 hx hZ hown (hw _ (List.mem_of_getElem? (i := 28) rfl)) (own_wS hw) e1 hS0 hG0 (Fr.nil _) (fun b cl q => by rw [hh]; exact P3.2.2 b cl q) hI0 (List.not_mem_nil) hcH hcW (vs := []) (z := 0) ⟨nofun, rfl⟩ (by decide) rfl (g := (mkF m 9 #[.val (.ref a1), .val (.ref a2), .val (.int (0 : Int32)), .val (.int (0 : Int32)), .val .null, .unset] [(.ref a1)])) rfl (hb hby d5_9) (n := 0) (by decide) (by decide) (by decide) (by decide)
    have f3 : Exa Z h2 a1 "java/lang/String" := P0.ext E2
    have f4 : Fld Z h2 a1 "java/lang/String" "coder" "B" (.int (0 : Int32)) := P1.ext E2
    have f5 : Fld Z h2 a1 "java/lang/String" "value" "[B" .null := P2.ext E2
    have f6 : Old Z n0 h2 := P3.ext E2
    have hGq2 : own_G k2 h2 := hG2
    have hZ : Z.Warmed39 (s.setVm T2.vm).vm := hZ2
    have hown : (s.setVm T2.vm).vm.findClass "java/lang/String" = some m.cls := hown2
    have Z2 : n0 ≤ h2.size := Nat.le_trans Z0 E2.1
    have K2 : Keep h0 h2 [a1] := (Keep.refl h0 [a1]).ext E2
    refine own_st st2 ?_
    have ne_a1_la2 : a1 ≠ la2 := Fld.ne f5 xV2 nofun
    have ne_a1_lb2 : a1 ≠ lb2 := Exa.neArv f3 xA2 (hw _ (List.mem_of_getElem? (i := 15) rfl))
    show own_Go p e below K (T2.setTop (mkF m 11 #[.val (.ref a1), .val (.ref a2), .val (.int (0 : Int32)), .val (.int (0 : Int32)), .val .null, .unset] [(.ref la2), (.ref a1)]))
    try clear X1 e1 st2 P0 P1 P2 P3
    obtain ⟨T7, X7, e7, st7⟩ := getF X2 hx hZ hown (host := "") (Or.inl (hw _ (List.mem_of_getElem? (i := 34) rfl))) Via.refl e2 xV2 (g := (mkF m 11 #[.val (.ref a1), .val (.ref a2), .val (.int (0 : Int32)), .val (.int (0 : Int32)), .val .null, .unset] [(.ref la2), (.ref a1)])) rfl rfl (hb hby d5_11)
    refine own_st st7 ?_
    show own_Go p e below K (T7.setTop (mkF m 14 #[.val (.ref a1), .val (.ref a2), .val (.int (0 : Int32)), .val (.int (0 : Int32)), .val .null, .unset] [(.ref lb2), (.ref a1)]))
    try clear X2 e2 st7
    obtain ⟨T8, h8, X8, e8, W8, st8⟩ := putF X7 hx hZ hown (host := "") (Or.inl (hw _ (List.mem_of_getElem? (i := 34) rfl))) Via.refl e7 f5 f3 (Or.inr ⟨(hw _ (List.mem_of_getElem? (i := 30) rfl)), rfl, hnm⟩) (hw _ (List.mem_of_getElem? (i := 15) rfl)) (ty := (.array .byte)) (by decide) rfl rfl (g := (mkF m 14 #[.val (.ref a1), .val (.ref a2), .val (.int (0 : Int32)), .val (.int (0 : Int32)), .val .null, .unset] [(.ref lb2), (.ref a1)])) rfl rfl (hb hby d5_14)
    have fw8 : Fld Z h8 a1 "java/lang/String" "value" "[B" (.ref lb2) := f5.same W8
    have f9 : Exa Z h8 a1 "java/lang/String" := f3.wr W8
    have f10 : Fld Z h8 a1 "java/lang/String" "coder" "B" (.int (0 : Int32)) := f4.other W8 (Or.inr (slot_ne (Or.inr (hw _ (List.mem_of_getElem? (i := 31) rfl))) (Or.inr (hw _ (List.mem_of_getElem? (i := 30) rfl))) (by decide) (t := .byte) (t' := (.array .byte)) (by decide) (by decide)))
    have f11 : Old Z n0 h8 := f6.wr W8 g_a1
    have f12 : own_G k2 h8 := hGq2.wr W8
    have f13 : Exa Z h8 la2 "java/lang/String" := xE2.wr W8
    have f14 : Fld Z h8 la2 "java/lang/String" "coder" "B" (.int (0 : Int32)) := xC2.other W8 (Or.inl (Ne.symm ne_a1_la2))
    have f15 : Fld Z h8 la2 "java/lang/String" "value" "[B" (.ref lb2) := xV2.other W8 (Or.inl (Ne.symm ne_a1_la2))
    have f16 : Arv Z h8 lb2 lk2 .byte (0 : Int32) [] (.int (0 : Int32)) := xA2.other W8 (Ne.symm ne_a1_lb2)
    have N8 := Fr.snoc X8 N0 g_a1
    have Z8 : n0 ≤ h8.size := Nat.le_trans Z2 (Keep.of_wr W8).1
    have K8 : Keep h0 h8 [a1] := K2.wr W8 (Or.inl (List.mem_of_getElem? (i := 0) rfl))
    refine own_st st8 ?_
    show own_Go p e below K (T8.setTop (mkF m 17 #[.val (.ref a1), .val (.ref a2), .val (.int (0 : Int32)), .val (.int (0 : Int32)), .val .null, .unset] []))
    try clear X7 e7 st8 f3 f4 f6 hGq2 xE2 xC2 xV2 xA2
    refine own_st (fun t k => XS.aloadN X8.here hx rfl (hb hby d5_17) rfl rfl k) ?_
    show own_Go p e below K (T8.setTop (mkF m 18 #[.val (.ref a1), .val (.ref a2), .val (.int (0 : Int32)), .val (.int (0 : Int32)), .val .null, .unset] [(.ref a1)]))
    refine own_st (ldcAgain (s := s) (vm0 := T2.vm) X8 hx hZ hown (hw _ (List.mem_of_getElem? (i := 28) rfl)) hL2 (g := (mkF m 18 #[.val (.ref a1), .val (.ref a2), .val (.int (0 : Int32)), .val (.int (0 : Int32)), .val .null, .unset] [(.ref a1)])) rfl (hb hby d5_18)) ?_
    show own_Go p e below K (T8.setTop (mkF m 20 #[.val (.ref a1), .val (.ref a2), .val (.int (0 : Int32)), .val (.int (0 : Int32)), .val .null, .unset] [(.ref la2), (.ref a1)]))
    obtain ⟨T17, X17, e17, st17⟩ := getF X8 hx hZ hown (host := "") (Or.inl (hw _ (List.mem_of_getElem? (i := 35) rfl))) Via.refl e8 f14 (g := (mkF m 20 #[.val (.ref a1), .val (.ref a2), .val (.int (0 : Int32)), .val (.int (0 : Int32)), .val .null, .unset] [(.ref la2), (.ref a1)])) rfl rfl (hb hby d5_20)
    refine own_st st17 ?_
    show own_Go p e below K (T17.setTop (mkF m 23 #[.val (.ref a1), .val (.ref a2), .val (.int (0 : Int32)), .val (.int (0 : Int32)), .val .null, .unset] [(.int (0 : Int32)), (.ref a1)]))
    try clear X8 e8 st17
    obtain ⟨T18, h18, X18, e18, W18, st18⟩ := putFN X17 hx hZ hown (hw _ (List.mem_of_getElem? (i := 35) rfl)) Via.refl e17 f10 f9 (Or.inr ⟨(hw _ (List.mem_of_getElem? (i := 31) rfl)), rfl, hnm⟩) (hw _ (List.mem_of_getElem? (i := 15) rfl)) (ty := .byte) (v' := .int (0 : Int32).toInt8.toInt32) (by decide) rfl (fits_nar_byte _) (g := (mkF m 23 #[.val (.ref a1), .val (.ref a2), .val (.int (0 : Int32)), .val (.int (0 : Int32)), .val .null, .unset] [(.int (0 : Int32)), (.ref a1)])) rfl rfl (hb hby d5_23)
    have fw18 : Fld Z h18 a1 "java/lang/String" "coder" "B" (.int (0 : Int32).toInt8.toInt32) := f10.same W18
    have f19 : Exa Z h18 a1 "java/lang/String" := f9.wr W18
    have f20 : Fld Z h18 a1 "java/lang/String" "value" "[B" (.ref lb2) := fw8.other W18 (Or.inr (slot_ne (Or.inr (hw _ (List.mem_of_getElem? (i := 30) rfl))) (Or.inr (hw _ (List.mem_of_getElem? (i := 31) rfl))) (by decide) (t := (.array .byte)) (t' := .byte) (by decide) (by decide)))
    have f21 : Old Z n0 h18 := f11.wr W18 g_a1
    have f22 : own_G k2 h18 := f12.wr W18
    have f23 : Exa Z h18 la2 "java/lang/String" := f13.wr W18
    have f24 : Fld Z h18 la2 "java/lang/String" "coder" "B" (.int (0 : Int32)) := f14.other W18 (Or.inl (Ne.symm ne_a1_la2))
    have f25 : Fld Z h18 la2 "java/lang/String" "value" "[B" (.ref lb2) := f15.other W18 (Or.inl (Ne.symm ne_a1_la2))
    have f26 : Arv Z h18 lb2 lk2 .byte (0 : Int32) [] (.int (0 : Int32)) := f16.other W18 (Ne.symm ne_a1_lb2)
    have N18 := Fr.snoc X18 N8 g_a1
    have Z18 : n0 ≤ h18.size := Nat.le_trans Z8 (Keep.of_wr W18).1
    have K18 : Keep h0 h18 [a1] := K8.wr W18 (Or.inl (List.mem_of_getElem? (i := 0) rfl))
    refine own_st st18 ?_
    show own_Go p e below K (T18.setTop (mkF m 26 #[.val (.ref a1), .val (.ref a2), .val (.int (0 : Int32)), .val (.int (0 : Int32)), .val .null, .unset] []))
    try clear X17 e17 st18 f9 fw8 f11 f12 f13 f14 f15 f16
    obtain ⟨fs, hr, hrun, hended, hEW⟩ := X18.leaveW hS2 (by rw [e18]; exact f22) (v := none) (fun _ => rfl)
    refine ⟨_, X18.returnOut hx Bd.returns (hb hby d5_26) hr, fin _ _ _ hrun hended ?_ ⟨hEW.1, hEW.2.1, hEW.2.2.1, hEW.2.2.2.mono (by decide) (by decide)⟩⟩
    show Q5w Z a1 a2 h0 n0 _ T18.heap T18.vm _
    rw [e18]
    exact ⟨lb2, lk2, rfl, N18, K18, f19, (own_z8 fw18), f20, f26, (own_W.warm (s := (s.setVm T2.vm)) (show own_W Z T2.vm h18 from Or.inr ⟨la2, lb2, lk2, hL2, f23, f24, f25, f26⟩) X18.warmed)⟩
  show own_Go p e below K (s₁.setTop (mkF m 0 #[.val (.ref a1), .val (.ref a2), .val (.int (0 : Int32)), .val (.int (0 : Int32)), .val .null, .unset] []))
  have ne_a1_la : a1 ≠ la := Fld.ne P2 xV nofun
  have ne_a1_lb : a1 ≠ lb := Exa.neArv P0 xA (hw _ (List.mem_of_getElem? (i := 15) rfl))
  refine own_st (fun t k => XS.aloadN X0.here hx rfl (hb hby d5_0) rfl rfl k) ?_
  show own_Go p e below K (s₁.setTop (mkF m 1 #[.val (.ref a1), .val (.ref a2), .val (.int (0 : Int32)), .val (.int (0 : Int32)), .val .null, .unset] [(.ref a1)]))
  obtain ⟨T27, X27, e27, st27⟩ := initO X0 hx hZ hown (hw _ (List.mem_of_getElem? (i := 25) rfl)) (hw _ (List.mem_of_getElem? (i := 26) rfl)) (hw _ (List.mem_of_getElem? (i := 27) rfl)) e0 (g := (mkF m 1 #[.val (.ref a1), .val (.ref a2), .val (.int (0 : Int32)), .val (.int (0 : Int32)), .val .null, .unset] [(.ref a1)])) rfl (by rw [hml]; rfl) rfl (hb hby d5_1) (by decide) (W := 0) (by show 2 * 0 + _ ≤ _; exact Nat.le_of_eq rfl) (by decide)
  refine own_st st27 ?_
  show own_Go p e below K (T27.setTop (mkF m 4 #[.val (.ref a1), .val (.ref a2), .val (.int (0 : Int32)), .val (.int (0 : Int32)), .val .null, .unset] []))
  try clear st27
  refine own_st (fun t k => XS.iloadN X27.here hx rfl (hb hby d5_4) rfl k) ?_
  show own_Go p e below K (T27.setTop (mkF m 5 #[.val (.ref a1), .val (.ref a2), .val (.int (0 : Int32)), .val (.int (0 : Int32)), .val .null, .unset] [(.int (0 : Int32))]))
  refine own_st (fun t k => XS.ifNo X27.here hx rfl (hb hby d5_5) rfl ((if0 _ _).trans (teq (by decide : (0 : Int32) = (0 : Int32))).2) k) ?_
  show own_Go p e below K (T27.setTop (mkF m 8 #[.val (.ref a1), .val (.ref a2), .val (.int (0 : Int32)), .val (.int (0 : Int32)), .val .null, .unset] []))
  refine own_st (fun t k => XS.aloadN X27.here hx rfl (hb hby d5_8) rfl rfl k) ?_
  show own_Go p e below K (T27.setTop (mkF m 9 #[.val (.ref a1), .val (.ref a2), .val (.int (0 : Int32)), .val (.int (0 : Int32)), .val .null, .unset] [(.ref a1)]))
  refine own_st (ldcAgain (s := s) (vm0 := s.vm) X27 hx hZ hown (hw _ (List.mem_of_getElem? (i := 28) rfl)) hL0 (g := (mkF m 9 #[.val (.ref a1), .val (.ref a2), .val (.int (0 : Int32)), .val (.int (0 : Int32)), .val .null, .unset] [(.ref a1)])) rfl (hb hby d5_9)) ?_
  show own_Go p e below K (T27.setTop (mkF m 11 #[.val (.ref a1), .val (.ref a2), .val (.int (0 : Int32)), .val (.int (0 : Int32)), .val .null, .unset] [(.ref la), (.ref a1)]))
  obtain ⟨T28, X28, e28, st28⟩ := getF X27 hx hZ hown (host := "") (Or.inl (hw _ (List.mem_of_getElem? (i := 34) rfl))) Via.refl e27 xV (g := (mkF m 11 #[.val (.ref a1), .val (.ref a2), .val (.int (0 : Int32)), .val (.int (0 : Int32)), .val .null, .unset] [(.ref la), (.ref a1)])) rfl rfl (hb hby d5_11)
  refine own_st st28 ?_
  show own_Go p e below K (T28.setTop (mkF m 14 #[.val (.ref a1), .val (.ref a2), .val (.int (0 : Int32)), .val (.int (0 : Int32)), .val .null, .unset] [(.ref lb), (.ref a1)]))
  try clear X27 e27 st28
  obtain ⟨T29, h29, X29, e29, W29, st29⟩ := putF X28 hx hZ hown (host := "") (Or.inl (hw _ (List.mem_of_getElem? (i := 34) rfl))) Via.refl e28 P2 P0 (Or.inr ⟨(hw _ (List.mem_of_getElem? (i := 30) rfl)), rfl, hnm⟩) (hw _ (List.mem_of_getElem? (i := 15) rfl)) (ty := (.array .byte)) (by decide) rfl rfl (g := (mkF m 14 #[.val (.ref a1), .val (.ref a2), .val (.int (0 : Int32)), .val (.int (0 : Int32)), .val .null, .unset] [(.ref lb), (.ref a1)])) rfl rfl (hb hby d5_14)
  have fw29 : Fld Z h29 a1 "java/lang/String" "value" "[B" (.ref lb) := P2.same W29
  have f30 : Exa Z h29 a1 "java/lang/String" := P0.wr W29
  have f31 : Fld Z h29 a1 "java/lang/String" "coder" "B" (.int (0 : Int32)) := P1.other W29 (Or.inr (slot_ne (Or.inr (hw _ (List.mem_of_getElem? (i := 31) rfl))) (Or.inr (hw _ (List.mem_of_getElem? (i := 30) rfl))) (by decide) (t := .byte) (t' := (.array .byte)) (by decide) (by decide)))
  have f32 : Old Z n0 h29 := P3.wr W29 g_a1
  have f33 : own_G 0 h29 := hG0.wr W29
  have f34 : Exa Z h29 la "java/lang/String" := xE.wr W29
  have f35 : Fld Z h29 la "java/lang/String" "coder" "B" (.int (0 : Int32)) := xC.other W29 (Or.inl (Ne.symm ne_a1_la))
  have f36 : Fld Z h29 la "java/lang/String" "value" "[B" (.ref lb) := xV.other W29 (Or.inl (Ne.symm ne_a1_la))
  have f37 : Arv Z h29 lb lk .byte (0 : Int32) [] (.int (0 : Int32)) := xA.other W29 (Ne.symm ne_a1_lb)
  have N29 := Fr.snoc X29 N0 g_a1
  have Z29 : n0 ≤ h29.size := Nat.le_trans Z0 (Keep.of_wr W29).1
  have K29 : Keep h0 h29 [a1] := (Keep.refl h0 [a1]).wr W29 (Or.inl (List.mem_of_getElem? (i := 0) rfl))
  refine own_st st29 ?_
  show own_Go p e below K (T29.setTop (mkF m 17 #[.val (.ref a1), .val (.ref a2), .val (.int (0 : Int32)), .val (.int (0 : Int32)), .val .null, .unset] []))
  try clear X28 e28 st29 P0 P1 P3 hG0 xE xC xV xA
  refine own_st (fun t k => XS.aloadN X29.here hx rfl (hb hby d5_17) rfl rfl k) ?_
  show own_Go p e below K (T29.setTop (mkF m 18 #[.val (.ref a1), .val (.ref a2), .val (.int (0 : Int32)), .val (.int (0 : Int32)), .val .null, .unset] [(.ref a1)]))
  refine own_st (ldcAgain (s := s) (vm0 := s.vm) X29 hx hZ hown (hw _ (List.mem_of_getElem? (i := 28) rfl)) hL0 (g := (mkF m 18 #[.val (.ref a1), .val (.ref a2), .val (.int (0 : Int32)), .val (.int (0 : Int32)), .val .null, .unset] [(.ref a1)])) rfl (hb hby d5_18)) ?_
  show own_Go p e below K (T29.setTop (mkF m 20 #[.val (.ref a1), .val (.ref a2), .val (.int (0 : Int32)), .val (.int (0 : Int32)), .val .null, .unset] [(.ref la), (.ref a1)]))
  obtain ⟨T38, X38, e38, st38⟩ := getF X29 hx hZ hown (host := "") (Or.inl (hw _ (List.mem_of_getElem? (i := 35) rfl))) Via.refl e29 f35 (g := (mkF m 20 #[.val (.ref a1), .val (.ref a2), .val (.int (0 : Int32)), .val (.int (0 : Int32)), .val .null, .unset] [(.ref la), (.ref a1)])) rfl rfl (hb hby d5_20)
  refine own_st st38 ?_
  show own_Go p e below K (T38.setTop (mkF m 23 #[.val (.ref a1), .val (.ref a2), .val (.int (0 : Int32)), .val (.int (0 : Int32)), .val .null, .unset] [(.int (0 : Int32)), (.ref a1)]))
  try clear X29 e29 st38
  obtain ⟨T39, h39, X39, e39, W39, st39⟩ := putFN X38 hx hZ hown (hw _ (List.mem_of_getElem? (i := 35) rfl)) Via.refl e38 f31 f30 (Or.inr ⟨(hw _ (List.mem_of_getElem? (i := 31) rfl)), rfl, hnm⟩) (hw _ (List.mem_of_getElem? (i := 15) rfl)) (ty := .byte) (v' := .int (0 : Int32).toInt8.toInt32) (by decide) rfl (fits_nar_byte _) (g := (mkF m 23 #[.val (.ref a1), .val (.ref a2), .val (.int (0 : Int32)), .val (.int (0 : Int32)), .val .null, .unset] [(.int (0 : Int32)), (.ref a1)])) rfl rfl (hb hby d5_23)
  have fw39 : Fld Z h39 a1 "java/lang/String" "coder" "B" (.int (0 : Int32).toInt8.toInt32) := f31.same W39
  have f40 : Exa Z h39 a1 "java/lang/String" := f30.wr W39
  have f41 : Fld Z h39 a1 "java/lang/String" "value" "[B" (.ref lb) := fw29.other W39 (Or.inr (slot_ne (Or.inr (hw _ (List.mem_of_getElem? (i := 30) rfl))) (Or.inr (hw _ (List.mem_of_getElem? (i := 31) rfl))) (by decide) (t := (.array .byte)) (t' := .byte) (by decide) (by decide)))
  have f42 : Old Z n0 h39 := f32.wr W39 g_a1
  have f43 : own_G 0 h39 := f33.wr W39
  have f44 : Exa Z h39 la "java/lang/String" := f34.wr W39
  have f45 : Fld Z h39 la "java/lang/String" "coder" "B" (.int (0 : Int32)) := f35.other W39 (Or.inl (Ne.symm ne_a1_la))
  have f46 : Fld Z h39 la "java/lang/String" "value" "[B" (.ref lb) := f36.other W39 (Or.inl (Ne.symm ne_a1_la))
  have f47 : Arv Z h39 lb lk .byte (0 : Int32) [] (.int (0 : Int32)) := f37.other W39 (Ne.symm ne_a1_lb)
  have N39 := Fr.snoc X39 N29 g_a1
  have Z39 : n0 ≤ h39.size := Nat.le_trans Z29 (Keep.of_wr W39).1
  have K39 : Keep h0 h39 [a1] := K29.wr W39 (Or.inl (List.mem_of_getElem? (i := 0) rfl))
  refine own_st st39 ?_
  show own_Go p e below K (T39.setTop (mkF m 26 #[.val (.ref a1), .val (.ref a2), .val (.int (0 : Int32)), .val (.int (0 : Int32)), .val .null, .unset] []))
  try clear X38 e38 st39 f30 fw29 f32 f33 f34 f35 f36 f37
  obtain ⟨fs, hr, hrun, hended, hEW⟩ := (show Stand p l e ({ frames := 1, cells := 2, slots := 4, locals := 12 } : Room) (s.setVm s.vm) m #[(.ref a1), (.ref a2), (.int (0 : Int32)), (.int (0 : Int32)), .null] below meth c T39 _ 0 0 from X39).leaveW hS0 (by rw [e39]; exact f43) (v := none) (fun _ => rfl)
  refine ⟨_, X39.returnOut hx Bd.returns (hb hby d5_26) hr, fin _ _ _ hrun hended ?_ ⟨hEW.1, hEW.2.1, hEW.2.2.1, hEW.2.2.2.mono (by decide) (by decide)⟩⟩
  show Q5w Z a1 a2 h0 n0 _ T39.heap T39.vm _
  rw [e39]
  exact ⟨lb, lk, rfl, N39, K39, f40, (own_z8 fw39), f41, f47, (own_W.warm (s := s) (show own_W Z s.vm h39 from Or.inr ⟨la, lb, lk, hL0, f44, f45, f46, f47⟩) X39.warmed)⟩
theorem ef_4w (m : MethodId) (x0 : Addr) (x1 : Addr) : entryFrame m #[(.ref x0), (.ref x1)] 2 = mkF m 0 #[.val (.ref x0), .val (.ref x1)] [] := by first | (simp [entryFrame, mkF, argsToLocals, Value.category]; done) | rfl
def Q4w (Z : State) (a1 : Addr) (a2 : Addr) (kx1 : ClassId) (h0 : Heap) (n0 : Nat) (v : Option Value) (h : Heap) (vm : Vm) (L : List Loc) : Prop := ∃ (b : Addr) (k : ClassId), v = none ∧ Fr n0 L ∧ Keep h0 h [a1] ∧ (Exa Z h a1 "java/lang/String") ∧ (Fld Z h a1 "java/lang/String" "coder" "B" (.int (0 : Int32))) ∧ (Fld Z h a1 "java/lang/String" "value" "[B" (.ref b)) ∧ (Arv Z h b k .byte (0 : Int32) [] (.int (0 : Int32))) ∧ own_W Z vm h
set_option maxRecDepth 65536 in
set_option maxHeartbeats 40000000 in
theorem rm4w (l : Launch) (Z : State) (a0 : Array Value) (hw : ∀ d ∈ tables_1, d.before a0 Z = true) (ws : List Jvm.Cond) (a1 : Addr) (a2 : Addr) (kx1 : ClassId) (h0 : Heap) (n0 : Nat) (Z0 : n0 ≤ h0.size) (g_a1 : n0 ≤ a1) (ne_a1_a2 : a1 ≠ a2) (P0 : Exa Z h0 a1 "java/lang/String") (P1 : Fld Z h0 a1 "java/lang/String" "coder" "B" (.int (0 : Int32))) (P2 : Fld Z h0 a1 "java/lang/String" "value" "[B" .null) (P3 : Arv Z h0 a2 kx1 .char (0 : Int32) [] (.int (0 : Int32))) (P4 : Old Z n0 h0) (hcH : Jvm.Lit.constHeld Z "java/lang/String" 7) (hcW : Jvm.Lit.compactW.before a0 Z = true) :
    MetFree l (⟨"java/lang/String", "<init>", "([C)V"⟩ : MethodName) (head1 (Jvm.Cond.code (⟨"java/lang/String", "<init>", "([C)V"⟩ : MethodName) jdk_42_method_3_code 2 none :: ws) ({ frames := 2, cells := 2, slots := 4, locals := 29 } : Room)) (fun a U => a = #[(.ref a1), (.ref a2)] ∧ Z.Warmed39 U.vm ∧ U.heap = h0 ∧ own_W Z U.vm h0) (fun _ _ _ _ _ => True) (fun _ U o U' => ∃ v L, o = .returned v ∧ Q4w Z a1 a2 kx1 h0 n0 v U'.heap U'.vm L ∧ ReturnedEndW U o U' L ({ frames := 2, cells := 2, slots := 4, locals := 29 } : Room).cells ({ frames := 2, cells := 2, slots := 4, locals := 29 } : Room).slots) := by
  refine MetFree.of_bodySF (plainFor_of_name pn_4) hisR ?_
  intro p e s m args below meth c s₁ Bd hml0 hP hK
  obtain ⟨rfl, hZ, hh, hW0⟩ := hP
  have hx := Bd.exec
  have hby := Bd.bytes
  have hml : c.maxLocals = 2 := hml0
  have hown : s.vm.findClass "java/lang/String" = some m.cls := findClass_of_methodNamed Bd.named
  have hnm := (name_of_methodNamed Bd.named Bd.method).1
  have X0 : Stand p l e ({ frames := 2, cells := 2, slots := 4, locals := 29 } : Room) s m #[(.ref a1), (.ref a2)] below meth c s₁ [] 0 0 := Stand.of_body Bd
  have e0 : s₁.heap = h0 := by rw [← hh, Bd.state]; rfl
  have N0 := Fr.nil n0
  have hS0 := own_s0 s
  have hG0 : own_G 0 h0 := Nat.zero_le _
  suffices G0 : ∀ K : State → Prop, (∀ (n : State) (v : Option Value) (L : List Loc), n.status = .running → Ended n below (.returned v) → Q4w Z a1 a2 kx1 h0 n0 v n.heap n.vm L → ReturnedEndW s (.returned v) n L ({ frames := 2, cells := 2, slots := 4, locals := 29 } : Room).cells ({ frames := 2, cells := 2, slots := 4, locals := 29 } : Room).slots → K n) → own_Go p e below K (s₁.setTop (mkF m 0 #[.val (.ref a1), .val (.ref a2)] [])) by
    obtain ⟨t, st, o, a, b, v, L, e1, q, fe⟩ := G0 (fun n => ∃ o, n.status = .running ∧ Ended n below o ∧ ∃ v L, o = .returned v ∧ Q4w Z a1 a2 kx1 h0 n0 v n.heap n.vm L ∧ ReturnedEndW s o n L ({ frames := 2, cells := 2, slots := 4, locals := 29 } : Room).cells ({ frames := 2, cells := 2, slots := 4, locals := 29 } : Room).slots) (fun n v L a b q f => ⟨_, a, b, v, L, rfl, q, f⟩)
    exact ⟨t, o, castTop (ef_4w m a1 a2) st, a, b, v, L, e1, q, fe⟩
  intro K fin
  show own_Go p e below K (s₁.setTop (mkF m 0 #[.val (.ref a1), .val (.ref a2)] []))
  refine own_st (fun t k => XS.aloadN X0.here hx rfl (hb hby d4_0) rfl rfl k) ?_
  show own_Go p e below K (s₁.setTop (mkF m 1 #[.val (.ref a1), .val (.ref a2)] [(.ref a1)]))
  refine own_st (fun t k => XS.aloadN X0.here hx rfl (hb hby d4_1) rfl rfl k) ?_
  show own_Go p e below K (s₁.setTop (mkF m 2 #[.val (.ref a1), .val (.ref a2)] [(.ref a2), (.ref a1)]))
  refine own_st (fun t k => XS.iconst X0.here hx rfl (hb hby d4_2) k) ?_
  show own_Go p e below K (s₁.setTop (mkF m 3 #[.val (.ref a1), .val (.ref a2)] [(.int (0 : Int32)), (.ref a2), (.ref a1)]))
  refine own_st (fun t k => XS.aloadN X0.here hx rfl (hb hby d4_3) rfl rfl k) ?_
  show own_Go p e below K (s₁.setTop (mkF m 4 #[.val (.ref a1), .val (.ref a2)] [(.ref a2), (.int (0 : Int32)), (.ref a2), (.ref a1)]))
  obtain ⟨cl1, Ar1, -, Sa1, Ma1, -, -⟩ := id P3
  refine own_st (X0.arraylength hx (own_hat e0 Ar1.1) (State.isArrayOf_alike hZ.alike Ar1.2.1) (g := (mkF m 4 #[.val (.ref a1), .val (.ref a2)] [(.ref a2), (.int (0 : Int32)), (.ref a2), (.ref a1)])) rfl rfl (hb hby d4_4)) ?_
  rw [len_of Sa1 Ma1]
  show own_Go p e below K (s₁.setTop (mkF m 5 #[.val (.ref a1), .val (.ref a2)] [(.int (0 : Int32)), (.int (0 : Int32)), (.ref a2), (.ref a1)]))
  refine own_st (fun t k => XS.aconstNull X0.here hx rfl (hb hby d4_5) k) ?_
  show own_Go p e below K (s₁.setTop (mkF m 6 #[.val (.ref a1), .val (.ref a2)] [.null, (.int (0 : Int32)), (.int (0 : Int32)), (.ref a2), (.ref a1)]))
  obtain ⟨_, _, ⟨T2, L2, k2, n2⟩, -, X2b, hSq2, hgr2, ⟨Lc2, hQ2, l2, y2, z2⟩, st2⟩ := X0.specialBackS hx (y := (⟨"java/lang/String", "<init>", "([CIILjava/lang/Void;)V"⟩ : MethodName)) rfl hown (mvT hZ (hw _ (List.mem_of_getElem? (i := 21) rfl))) (mvT hZ (hw _ (List.mem_of_getElem? (i := 22) rfl))) (mvT hZ (hw _ (List.mem_of_getElem? (i := 24) rfl))) (by decide) (own_backS (W := 0) (V := fun vm => own_W Z vm h0) (rm5w l Z a0 hw [] a1 a2 h0 n0 Z0 g_a1 P0 P1 P2 P4 (by assumption) (by assumption)) hZ (fun vm' w => own_W.warm (s := s) hW0 w) (hw _ (List.mem_of_getElem? (i := 24) rfl)) (hw _ (List.mem_of_getElem? (i := 16) rfl)) (by decide) (by decide)) (g := (mkF m 6 #[.val (.ref a1), .val (.ref a2)] [.null, (.int (0 : Int32)), (.int (0 : Int32)), (.ref a2), (.ref a1)])) rfl (by rw [hml]; rfl) (Steps.refl _) (a := a1) (argsL := [(.ref a2), (.int (0 : Int32)), (.int (0 : Int32)), .null]) (rest := []) (lenOf pd_4_4 rfl) rfl (by show 2 * 0 + _ ≤ _; exact Nat.le_of_eq rfl) (hb hby d4_6) (fun _ _ => ⟨rfl, e0, (by decide : 0 + 2 ≤ _), (by decide : 0 + 4 ≤ _)⟩)
  dsimp only [Pt.U, Pt.locs, Pt.cells, Pt.slots] at X2b l2 y2 z2 st2 hQ2 hSq2 hgr2
  have X2 : Stand p l e ({ frames := 2, cells := 2, slots := 4, locals := 29 } : Room) (s.setVm T2.vm) m #[(.ref a1), (.ref a2)] below meth c T2 L2 k2 n2 := X2b
  clear X2b
  have hS2 : s.Since T2.vm T2.heap.size := hS0.trans (n₂ := T2.heap.size) hSq2 (Nat.le_trans (Nat.le_trans hG0 (Nat.le_of_eq (congrArg Array.size (e0)).symm)) hgr2)
  have hZ : Z.Warmed39 (s.setVm T2.vm).vm := State.Warmed39.trans (t := s) hZ hSq2.1
  have hown : (s.setVm T2.vm).vm.findClass "java/lang/String" = some m.cls := by rw [show (s.setVm T2.vm).vm = T2.vm from rfl, hSq2.1.alike.findClass]; exact hown
  obtain ⟨b_2, k_2, rfl, N2q, Kq2, p2_0, p2_1, p2_2, p2_3, pW2⟩ := hQ2
  have N2 : Fr n0 L2 := by rw [l2]; exact Fr.app N0 N2q
  clear l2
  have y2' : k2 = 2 := y2
  have z2' : n2 = 4 := z2
  clear y2 z2
  subst y2' z2'
  have f3 : Arv Z T2.heap a2 kx1 .char (0 : Int32) [] (.int (0 : Int32)) := P3.keep Kq2 (ninS (Ne.symm ne_a1_a2) nin0)
  have f4 : Old Z n0 T2.heap := P4.keep Kq2 (allS (P := fun x => n0 ≤ x) g_a1 all0)
  have hG2 : own_G T2.heap.size T2.heap := Nat.le_refl _
  have Z2 : n0 ≤ T2.heap.size := Nat.le_trans Z0 Kq2.1
  have K2 : Keep h0 T2.heap [a1] := (Keep.refl h0 [a1]).trans Kq2 (allS (P := fun x => x ∈ [a1] ∨ h0.size ≤ x) (Or.inl (List.mem_of_getElem? (i := 0) rfl)) all0)
  refine own_tr st2 ?_
  show own_Go p e below K (T2.setTop (mkF m 9 #[.val (.ref a1), .val (.ref a2)] []))
  try clear st2 N2q P3 P4
  obtain ⟨fs, hr, hrun, hended, hEW⟩ := X2.leaveW hS2 hG2 (v := none) (fun _ => rfl)
  refine ⟨_, X2.returnOut hx Bd.returns (hb hby d4_9) hr, fin _ _ _ hrun hended ?_ ⟨hEW.1, hEW.2.1, hEW.2.2.1, hEW.2.2.2.mono (by decide) (by decide)⟩⟩
  show Q4w Z a1 a2 kx1 h0 n0 _ T2.heap T2.vm _
  exact ⟨b_2, k_2, rfl, N2, K2, p2_0, p2_1, p2_2, p2_3, (own_W.warm (s := (s.setVm T2.vm)) pW2 X2.warmed)⟩
theorem d16_0 : decode jdk_43_method_3_code 0 = .ok (.iload_n 0, 1) := by decide +kernel
theorem d16_1 : decode jdk_43_method_3_code 1 = .ok (.sipush 255, 3) := by decide +kernel
theorem d16_4 : decode jdk_43_method_3_code 4 = .ok (.if_icmp .gt 7, 3) := by decide +kernel
theorem d16_7 : decode jdk_43_method_3_code 7 = .ok (.iconst 1, 1) := by decide +kernel
theorem d16_8 : decode jdk_43_method_3_code 8 = .ok (.goto 4, 3) := by decide +kernel
theorem d16_12 : decode jdk_43_method_3_code 12 = .ok (.ireturn, 1) := by decide +kernel
theorem pn_16 : plainName "java/lang/StringLatin1" = true := by first | (simp [plainName, overriddenIn]; done) | decide +kernel
theorem ef_16 (m : MethodId) (x0 : Int32) : entryFrame m #[(.int x0)] 1 = mkF m 0 #[.val (.int x0)] [] := by first | (simp [entryFrame, mkF, argsToLocals, Value.category]; done) | rfl
def Q16 (Z : State) (p1 : Int32) (h0 : Heap) (n0 : Nat) (v : Option Value) (h : Heap) (L : List Loc) : Prop := ∃ (r : Int32), v = some (.int r) ∧ (r = (1 : Int32)) ∧ Fr n0 L ∧ h = h0
set_option maxRecDepth 65536 in
set_option maxHeartbeats 40000000 in
theorem rm16 (l : Launch) (Z : State) (a0 : Array Value) (hw : ∀ d ∈ tables_1, d.before a0 Z = true) (ws : List Jvm.Cond) (p1 : Int32) (h0 : Heap) (n0 : Nat) (Z0 : n0 ≤ h0.size) (hb0 : 0 ≤ p1.toInt ∧ p1.toInt ≤ 255) :
    MetFree l (⟨"java/lang/StringLatin1", "canEncode", "(C)Z"⟩ : MethodName) (head1 (Jvm.Cond.code (⟨"java/lang/StringLatin1", "canEncode", "(C)Z"⟩ : MethodName) jdk_43_method_3_code 1 (some .boolean) :: ws) ({ frames := 0, cells := 0, slots := 0, locals := 0 } : Room)) (fun a U => a = #[(.int p1)] ∧ Z.Warmed39 U.vm ∧ U.heap = h0) (fun _ _ _ _ _ => True) (fun _ U o U' => ∃ v L, o = .returned v ∧ Q16 Z p1 h0 n0 v U'.heap L ∧ FrameEnd U o U' L ({ frames := 0, cells := 0, slots := 0, locals := 0 } : Room).cells ({ frames := 0, cells := 0, slots := 0, locals := 0 } : Room).slots) := by
  refine MetFree.of_bodySF (plainFor_of_name pn_16) hisR ?_
  intro p e s m args below meth c s₁ Bd hml0 hP hK
  obtain ⟨rfl, hZ, hh⟩ := hP
  have hx := Bd.exec
  have hby := Bd.bytes
  have hml : c.maxLocals = 1 := hml0
  have hown : s.vm.findClass "java/lang/StringLatin1" = some m.cls := findClass_of_methodNamed Bd.named
  have hnm := (name_of_methodNamed Bd.named Bd.method).1
  have X0 : Stand p l e ({ frames := 0, cells := 0, slots := 0, locals := 0 } : Room) s m #[(.int p1)] below meth c s₁ [] 0 0 := Stand.of_body Bd
  have e0 : s₁.heap = h0 := by rw [← hh, Bd.state]; rfl
  have N0 := Fr.nil n0
  suffices G0 : ∀ K : State → Prop, (∀ (n : State) (v : Option Value) (L : List Loc), n.status = .running → Ended n below (.returned v) → Q16 Z p1 h0 n0 v n.heap L → FrameEnd s (.returned v) n L ({ frames := 0, cells := 0, slots := 0, locals := 0 } : Room).cells ({ frames := 0, cells := 0, slots := 0, locals := 0 } : Room).slots → K n) → own_Go p e below K (s₁.setTop (mkF m 0 #[.val (.int p1)] [])) by
    obtain ⟨t, st, o, a, b, v, L, e1, q, fe⟩ := G0 (fun n => ∃ o, n.status = .running ∧ Ended n below o ∧ ∃ v L, o = .returned v ∧ Q16 Z p1 h0 n0 v n.heap L ∧ FrameEnd s o n L ({ frames := 0, cells := 0, slots := 0, locals := 0 } : Room).cells ({ frames := 0, cells := 0, slots := 0, locals := 0 } : Room).slots) (fun n v L a b q f => ⟨_, a, b, v, L, rfl, q, f⟩)
    exact ⟨t, o, castTop (ef_16 m p1) st, a, b, v, L, e1, q, fe⟩
  intro K fin
  show own_Go p e below K (s₁.setTop (mkF m 0 #[.val (.int p1)] []))
  refine own_st (fun t k => XS.iloadN X0.here hx rfl (hb hby d16_0) rfl k) ?_
  show own_Go p e below K (s₁.setTop (mkF m 1 #[.val (.int p1)] [(.int p1)]))
  refine own_st (fun t k => XS.sipush X0.here hx rfl (hb hby d16_1) k) ?_
  show own_Go p e below K (s₁.setTop (mkF m 4 #[.val (.int p1)] [(.int (255 : Int32)), (.int p1)]))
  refine own_st (fun t k => XS.icmpNo X0.here hx rfl (hb hby d16_4) rfl (flt (own_nlt (show p1.toInt ≤ (255 : Int32).toInt from hb0.2) : ¬ ((255 : Int32) < p1))).2.2.1 k) ?_
  show own_Go p e below K (s₁.setTop (mkF m 7 #[.val (.int p1)] []))
  refine own_st (fun t k => XS.iconst X0.here hx rfl (hb hby d16_7) k) ?_
  show own_Go p e below K (s₁.setTop (mkF m 8 #[.val (.int p1)] [(.int (1 : Int32))]))
  refine own_st (fun t k => XS.goto X0.here hx rfl (pc0 := 8) (pc' := 12) rfl (hb hby d16_8) (by decide) (by decide) k) ?_
  show own_Go p e below K (s₁.setTop (mkF m 12 #[.val (.int p1)] [(.int (1 : Int32))]))
  obtain ⟨fs, hr, hrun, hended, hW, hsame⟩ := X0.leave (v := some (.int (nar .boolean (1 : Int32)))) (fun h => by rw [Bd.returns] at h; cases h)
  refine ⟨_, retN X0 hx (t := .boolean) Bd.returns (by simp) (hb hby d16_12) hr, fin _ _ _ hrun hended ?_ ⟨⟨_, rfl⟩, hW, hsame.mono (by decide) (by decide)⟩⟩
  show Q16 Z p1 h0 n0 _ s₁.heap _
  rw [e0]
  exact ⟨_, rfl, (by decide), N0, rfl⟩
theorem d17_0 : decode jdk_43_method_46_code 0 = .ok (.iconst 1, 1) := by decide +kernel
theorem d17_1 : decode jdk_43_method_46_code 1 = .ok (.newarray .byte, 2) := by decide +kernel
theorem d17_3 : decode jdk_43_method_46_code 3 = .ok (.dup, 1) := by decide +kernel
theorem d17_4 : decode jdk_43_method_46_code 4 = .ok (.iconst 0, 1) := by decide +kernel
theorem d17_5 : decode jdk_43_method_46_code 5 = .ok (.iload_n 0, 1) := by decide +kernel
theorem d17_6 : decode jdk_43_method_46_code 6 = .ok (.i2b, 1) := by decide +kernel
theorem d17_7 : decode jdk_43_method_46_code 7 = .ok (.bastore, 1) := by decide +kernel
theorem d17_8 : decode jdk_43_method_46_code 8 = .ok (.areturn, 1) := by decide +kernel
theorem pn_17 : plainName "java/lang/StringLatin1" = true := by first | (simp [plainName, overriddenIn]; done) | decide +kernel
theorem ef_17 (m : MethodId) (x0 : Int32) : entryFrame m #[(.int x0)] 1 = mkF m 0 #[.val (.int x0)] [] := by first | (simp [entryFrame, mkF, argsToLocals, Value.category]; done) | rfl
def Q17 (Z : State) (p1 : Int32) (h0 : Heap) (n0 : Nat) (v : Option Value) (h : Heap) (L : List Loc) : Prop := ∃ (r : Addr) (k : ClassId), v = some (.ref r) ∧ (True) ∧ h0.size ≤ r ∧ Fr n0 L ∧ Keep h0 h [] ∧ (Arv Z h r k .byte (1 : Int32) [(.int (p1.toInt8.toInt32))] (.int (0 : Int32)))
set_option maxRecDepth 65536 in
set_option maxHeartbeats 40000000 in
theorem rm17 (l : Launch) (Z : State) (a0 : Array Value) (hw : ∀ d ∈ tables_1, d.before a0 Z = true) (ws : List Jvm.Cond) (p1 : Int32) (h0 : Heap) (n0 : Nat) (Z0 : n0 ≤ h0.size)  :
    MetFree l (⟨"java/lang/StringLatin1", "toBytes", "(C)[B"⟩ : MethodName) (head1 (Jvm.Cond.code (⟨"java/lang/StringLatin1", "toBytes", "(C)[B"⟩ : MethodName) jdk_43_method_46_code 1 (some (.array .byte)) :: ws) ({ frames := 0, cells := 1, slots := 1, locals := 0 } : Room)) (fun a U => a = #[(.int p1)] ∧ Z.Warmed39 U.vm ∧ U.heap = h0) (fun _ _ _ _ _ => True) (fun _ U o U' => ∃ v L, o = .returned v ∧ Q17 Z p1 h0 n0 v U'.heap L ∧ FrameEnd U o U' L ({ frames := 0, cells := 1, slots := 1, locals := 0 } : Room).cells ({ frames := 0, cells := 1, slots := 1, locals := 0 } : Room).slots) := by
  refine MetFree.of_bodySF (plainFor_of_name pn_17) hisR ?_
  intro p e s m args below meth c s₁ Bd hml0 hP hK
  obtain ⟨rfl, hZ, hh⟩ := hP
  have hx := Bd.exec
  have hby := Bd.bytes
  have hml : c.maxLocals = 1 := hml0
  have hown : s.vm.findClass "java/lang/StringLatin1" = some m.cls := findClass_of_methodNamed Bd.named
  have hnm := (name_of_methodNamed Bd.named Bd.method).1
  have X0 : Stand p l e ({ frames := 0, cells := 1, slots := 1, locals := 0 } : Room) s m #[(.int p1)] below meth c s₁ [] 0 0 := Stand.of_body Bd
  have e0 : s₁.heap = h0 := by rw [← hh, Bd.state]; rfl
  have N0 := Fr.nil n0
  suffices G0 : ∀ K : State → Prop, (∀ (n : State) (v : Option Value) (L : List Loc), n.status = .running → Ended n below (.returned v) → Q17 Z p1 h0 n0 v n.heap L → FrameEnd s (.returned v) n L ({ frames := 0, cells := 1, slots := 1, locals := 0 } : Room).cells ({ frames := 0, cells := 1, slots := 1, locals := 0 } : Room).slots → K n) → own_Go p e below K (s₁.setTop (mkF m 0 #[.val (.int p1)] [])) by
    obtain ⟨t, st, o, a, b, v, L, e1, q, fe⟩ := G0 (fun n => ∃ o, n.status = .running ∧ Ended n below o ∧ ∃ v L, o = .returned v ∧ Q17 Z p1 h0 n0 v n.heap L ∧ FrameEnd s o n L ({ frames := 0, cells := 1, slots := 1, locals := 0 } : Room).cells ({ frames := 0, cells := 1, slots := 1, locals := 0 } : Room).slots) (fun n v L a b q f => ⟨_, a, b, v, L, rfl, q, f⟩)
    exact ⟨t, o, castTop (ef_17 m p1) st, a, b, v, L, e1, q, fe⟩
  intro K fin
  show own_Go p e below K (s₁.setTop (mkF m 0 #[.val (.int p1)] []))
  refine own_st (fun t k => XS.iconst X0.here hx rfl (hb hby d17_0) k) ?_
  show own_Go p e below K (s₁.setTop (mkF m 1 #[.val (.int p1)] [(.int (1 : Int32))]))
  obtain ⟨T1, h1, k1, X1, e1, E1, A1, st1⟩ := newP X0 hx hZ (hw _ (List.mem_of_getElem? (i := 29) rfl)) e0 (g := (mkF m 1 #[.val (.int p1)] [(.int (1 : Int32))])) rfl (hb hby d17_1) rfl (by decide) (cap := 1) (by decide) (by decide) (by decide) (by decide)
  obtain ⟨b1, g1⟩ : ∃ z, z = h0.size := ⟨_, rfl⟩
  rw [← g1] at A1 st1
  have g_b1 : n0 ≤ b1 := Nat.le_trans Z0 (Nat.le_of_eq g1.symm)
  have sz_b1 : h0.size ≤ b1 := Nat.le_trans (Keep.refl h0 []).1 (Nat.le_of_eq g1.symm)
  have V1 : Arv Z h1 b1 k1 .byte (1 : Int32) [(.int (0 : Int32))] (.int (0 : Int32)) := (Arv.new A1 (by decide)).pad (pad_rep [] (.int (0 : Int32)) 1)
  have Z1 : n0 ≤ h1.size := Nat.le_trans Z0 E1.1
  have K1 : Keep h0 h1 [] := (Keep.refl h0 []).ext E1
  refine own_st st1 ?_
  show own_Go p e below K (T1.setTop (mkF m 3 #[.val (.int p1)] [(.ref b1)]))
  try clear st1
  refine own_st (fun t k => XS.dup X1.here hx rfl (hb hby d17_3) rfl rfl k) ?_
  show own_Go p e below K (T1.setTop (mkF m 4 #[.val (.int p1)] [(.ref b1), (.ref b1)]))
  refine own_st (fun t k => XS.iconst X1.here hx rfl (hb hby d17_4) k) ?_
  show own_Go p e below K (T1.setTop (mkF m 5 #[.val (.int p1)] [(.int (0 : Int32)), (.ref b1), (.ref b1)]))
  refine own_st (fun t k => XS.iloadN X1.here hx rfl (hb hby d17_5) rfl k) ?_
  show own_Go p e below K (T1.setTop (mkF m 6 #[.val (.int p1)] [(.int p1), (.int (0 : Int32)), (.ref b1), (.ref b1)]))
  refine own_st (fun t k => XS.i2b X1.here hx rfl (hb hby d17_6) rfl k) ?_
  show own_Go p e below K (T1.setTop (mkF m 7 #[.val (.int p1)] [(.int (p1.toInt8.toInt32)), (.int (0 : Int32)), (.ref b1), (.ref b1)]))
  obtain ⟨cl2, Ar2, qa2, Sa2, Ma2, Ha2, Ga2⟩ := id V1
  have hin2 : ¬ ((0 : Int32) < 0 ∨ cl2.slots.size ≤ ((0 : Int32)).toNatClampNeg) := inb_of Sa2 ⟨by decide, by decide⟩
  obtain ⟨T3, h3, X3, e3, W3, st3⟩ := stB X1 hx hZ e1 Ar2 (j := (0 : Int32)) hin2 (g := (mkF m 7 #[.val (.int p1)] [(.int (p1.toInt8.toInt32)), (.int (0 : Int32)), (.ref b1), (.ref b1)])) rfl rfl (hb hby d17_7)
  have id3 : nar .byte (p1.toInt8.toInt32) = (p1.toInt8.toInt32) := (own_nb _)
  rw [id3] at W3
  have V3 : Arv Z h3 b1 k1 .byte (1 : Int32) [(.int (p1.toInt8.toInt32))] (.int (0 : Int32)) := Arv.set Ar2 qa2 Sa2 Ma2 Ha2 Ga2 (own_fit id3) W3 0 rfl (Nat.le_of_ble_eq_true rfl)
  have N3 := Fr.snoc X3 N0 g_b1
  have Z3 : n0 ≤ h3.size := Nat.le_trans Z1 (Keep.of_wr W3).1
  have K3 : Keep h0 h3 [] := K1.wr W3 (Or.inr sz_b1)
  refine own_st st3 ?_
  show own_Go p e below K (T3.setTop (mkF m 8 #[.val (.int p1)] [(.ref b1)]))
  try clear X1 e1 st3
  obtain ⟨fs, hr, hrun, hended, hW, hsame⟩ := X3.leave (v := some (.ref b1)) (fun h => by rw [Bd.returns] at h; cases h)
  refine ⟨_, X3.areturnOut hx rfl Bd.returns rfl (hb hby d17_8) hr, fin _ _ _ hrun hended ?_ ⟨⟨_, rfl⟩, hW, hsame.mono (by decide) (by decide)⟩⟩
  show Q17 Z p1 h0 n0 _ T3.heap _
  rw [e3]
  exact ⟨_, k1, rfl, trivial, sz_b1, N3, K3, V3⟩
theorem d18_0 : decode jdk_42_method_151_code 0 = .ok (.aload_n 0, 1) := by decide +kernel
theorem d18_1 : decode jdk_42_method_151_code 1 = .ok (.invokespecial 1, 3) := by decide +kernel
theorem d18_4 : decode jdk_42_method_151_code 4 = .ok (.aload_n 0, 1) := by decide +kernel
theorem d18_5 : decode jdk_42_method_151_code 5 = .ok (.aload_n 1, 1) := by decide +kernel
theorem d18_6 : decode jdk_42_method_151_code 6 = .ok (.putfield 9, 3) := by decide +kernel
theorem d18_9 : decode jdk_42_method_151_code 9 = .ok (.aload_n 0, 1) := by decide +kernel
theorem d18_10 : decode jdk_42_method_151_code 10 = .ok (.iload_n 2, 1) := by decide +kernel
theorem d18_11 : decode jdk_42_method_151_code 11 = .ok (.putfield 15, 3) := by decide +kernel
theorem d18_14 : decode jdk_42_method_151_code 14 = .ok (.return_, 1) := by decide +kernel
theorem pn_18 : plainName "java/lang/String" = true := by first | (simp [plainName, overriddenIn]; done) | decide +kernel
theorem ef_18 (m : MethodId) (x0 : Addr) (x1 : Addr) (x2 : Int32) : entryFrame m #[(.ref x0), (.ref x1), (.int x2)] 3 = mkF m 0 #[.val (.ref x0), .val (.ref x1), .val (.int x2)] [] := by first | (simp [entryFrame, mkF, argsToLocals, Value.category]; done) | rfl
def Q18 (Z : State) (a1 : Addr) (pb : Addr) (h0 : Heap) (n0 : Nat) (v : Option Value) (h : Heap) (L : List Loc) : Prop := v = none ∧ Fr n0 L ∧ Keep h0 h [a1] ∧ (Exa Z h a1 "java/lang/String") ∧ (Fld Z h a1 "java/lang/String" "coder" "B" (.int (0 : Int32))) ∧ (Fld Z h a1 "java/lang/String" "value" "[B" (.ref pb))
set_option maxRecDepth 65536 in
set_option maxHeartbeats 40000000 in
theorem rm18 (l : Launch) (Z : State) (a0 : Array Value) (hw : ∀ d ∈ tables_1, d.before a0 Z = true) (ws : List Jvm.Cond) (a1 : Addr) (pb : Addr) (h0 : Heap) (n0 : Nat) (Z0 : n0 ≤ h0.size) (g_a1 : n0 ≤ a1) (P0 : Exa Z h0 a1 "java/lang/String") (P1 : Fld Z h0 a1 "java/lang/String" "coder" "B" (.int (0 : Int32))) (P2 : Fld Z h0 a1 "java/lang/String" "value" "[B" .null) :
    MetFree l (⟨"java/lang/String", "<init>", "([BB)V"⟩ : MethodName) (head1 (Jvm.Cond.code (⟨"java/lang/String", "<init>", "([BB)V"⟩ : MethodName) jdk_42_method_151_code 3 none :: ws) ({ frames := 1, cells := 0, slots := 0, locals := 12 } : Room)) (fun a U => a = #[(.ref a1), (.ref pb), (.int (0 : Int32))] ∧ Z.Warmed39 U.vm ∧ U.heap = h0) (fun _ _ _ _ _ => True) (fun _ U o U' => ∃ v L, o = .returned v ∧ Q18 Z a1 pb h0 n0 v U'.heap L ∧ FrameEnd U o U' L ({ frames := 1, cells := 0, slots := 0, locals := 12 } : Room).cells ({ frames := 1, cells := 0, slots := 0, locals := 12 } : Room).slots) := by
  refine MetFree.of_bodySF (plainFor_of_name pn_18) hisR ?_
  intro p e s m args below meth c s₁ Bd hml0 hP hK
  obtain ⟨rfl, hZ, hh⟩ := hP
  have hx := Bd.exec
  have hby := Bd.bytes
  have hml : c.maxLocals = 3 := hml0
  have hown : s.vm.findClass "java/lang/String" = some m.cls := findClass_of_methodNamed Bd.named
  have hnm := (name_of_methodNamed Bd.named Bd.method).1
  have X0 : Stand p l e ({ frames := 1, cells := 0, slots := 0, locals := 12 } : Room) s m #[(.ref a1), (.ref pb), (.int (0 : Int32))] below meth c s₁ [] 0 0 := Stand.of_body Bd
  have e0 : s₁.heap = h0 := by rw [← hh, Bd.state]; rfl
  have N0 := Fr.nil n0
  suffices G0 : ∀ K : State → Prop, (∀ (n : State) (v : Option Value) (L : List Loc), n.status = .running → Ended n below (.returned v) → Q18 Z a1 pb h0 n0 v n.heap L → FrameEnd s (.returned v) n L ({ frames := 1, cells := 0, slots := 0, locals := 12 } : Room).cells ({ frames := 1, cells := 0, slots := 0, locals := 12 } : Room).slots → K n) → own_Go p e below K (s₁.setTop (mkF m 0 #[.val (.ref a1), .val (.ref pb), .val (.int (0 : Int32))] [])) by
    obtain ⟨t, st, o, a, b, v, L, e1, q, fe⟩ := G0 (fun n => ∃ o, n.status = .running ∧ Ended n below o ∧ ∃ v L, o = .returned v ∧ Q18 Z a1 pb h0 n0 v n.heap L ∧ FrameEnd s o n L ({ frames := 1, cells := 0, slots := 0, locals := 12 } : Room).cells ({ frames := 1, cells := 0, slots := 0, locals := 12 } : Room).slots) (fun n v L a b q f => ⟨_, a, b, v, L, rfl, q, f⟩)
    exact ⟨t, o, castTop (ef_18 m a1 pb (0 : Int32)) st, a, b, v, L, e1, q, fe⟩
  intro K fin
  show own_Go p e below K (s₁.setTop (mkF m 0 #[.val (.ref a1), .val (.ref pb), .val (.int (0 : Int32))] []))
  refine own_st (fun t k => XS.aloadN X0.here hx rfl (hb hby d18_0) rfl rfl k) ?_
  show own_Go p e below K (s₁.setTop (mkF m 1 #[.val (.ref a1), .val (.ref pb), .val (.int (0 : Int32))] [(.ref a1)]))
  obtain ⟨T1, X1, e1, st1⟩ := initO X0 hx hZ hown (hw _ (List.mem_of_getElem? (i := 25) rfl)) (hw _ (List.mem_of_getElem? (i := 26) rfl)) (hw _ (List.mem_of_getElem? (i := 27) rfl)) e0 (g := (mkF m 1 #[.val (.ref a1), .val (.ref pb), .val (.int (0 : Int32))] [(.ref a1)])) rfl (by rw [hml]; rfl) rfl (hb hby d18_1) (by decide) (W := 0) (by show 2 * 0 + _ ≤ _; exact Nat.le_of_eq rfl) (by decide)
  refine own_st st1 ?_
  show own_Go p e below K (T1.setTop (mkF m 4 #[.val (.ref a1), .val (.ref pb), .val (.int (0 : Int32))] []))
  try clear st1
  refine own_st (fun t k => XS.aloadN X1.here hx rfl (hb hby d18_4) rfl rfl k) ?_
  show own_Go p e below K (T1.setTop (mkF m 5 #[.val (.ref a1), .val (.ref pb), .val (.int (0 : Int32))] [(.ref a1)]))
  refine own_st (fun t k => XS.aloadN X1.here hx rfl (hb hby d18_5) rfl rfl k) ?_
  show own_Go p e below K (T1.setTop (mkF m 6 #[.val (.ref a1), .val (.ref pb), .val (.int (0 : Int32))] [(.ref pb), (.ref a1)]))
  obtain ⟨T2, h2, X2, e2, W2, st2⟩ := putF X1 hx hZ hown (host := "") (Or.inl (hw _ (List.mem_of_getElem? (i := 34) rfl))) Via.refl e1 P2 P0 (Or.inr ⟨(hw _ (List.mem_of_getElem? (i := 30) rfl)), rfl, hnm⟩) (hw _ (List.mem_of_getElem? (i := 15) rfl)) (ty := (.array .byte)) (by decide) rfl rfl (g := (mkF m 6 #[.val (.ref a1), .val (.ref pb), .val (.int (0 : Int32))] [(.ref pb), (.ref a1)])) rfl rfl (hb hby d18_6)
  have fw2 : Fld Z h2 a1 "java/lang/String" "value" "[B" (.ref pb) := P2.same W2
  have f3 : Exa Z h2 a1 "java/lang/String" := P0.wr W2
  have f4 : Fld Z h2 a1 "java/lang/String" "coder" "B" (.int (0 : Int32)) := P1.other W2 (Or.inr (slot_ne (Or.inr (hw _ (List.mem_of_getElem? (i := 31) rfl))) (Or.inr (hw _ (List.mem_of_getElem? (i := 30) rfl))) (by decide) (t := .byte) (t' := (.array .byte)) (by decide) (by decide)))
  have N2 := Fr.snoc X2 N0 g_a1
  have Z2 : n0 ≤ h2.size := Nat.le_trans Z0 (Keep.of_wr W2).1
  have K2 : Keep h0 h2 [a1] := (Keep.refl h0 [a1]).wr W2 (Or.inl (List.mem_of_getElem? (i := 0) rfl))
  refine own_st st2 ?_
  show own_Go p e below K (T2.setTop (mkF m 9 #[.val (.ref a1), .val (.ref pb), .val (.int (0 : Int32))] []))
  try clear X1 e1 st2 P0 P1
  refine own_st (fun t k => XS.aloadN X2.here hx rfl (hb hby d18_9) rfl rfl k) ?_
  show own_Go p e below K (T2.setTop (mkF m 10 #[.val (.ref a1), .val (.ref pb), .val (.int (0 : Int32))] [(.ref a1)]))
  refine own_st (fun t k => XS.iloadN X2.here hx rfl (hb hby d18_10) rfl k) ?_
  show own_Go p e below K (T2.setTop (mkF m 11 #[.val (.ref a1), .val (.ref pb), .val (.int (0 : Int32))] [(.int (0 : Int32)), (.ref a1)]))
  obtain ⟨T5, h5, X5, e5, W5, st5⟩ := putFN X2 hx hZ hown (hw _ (List.mem_of_getElem? (i := 35) rfl)) Via.refl e2 f4 f3 (Or.inr ⟨(hw _ (List.mem_of_getElem? (i := 31) rfl)), rfl, hnm⟩) (hw _ (List.mem_of_getElem? (i := 15) rfl)) (ty := .byte) (v' := .int (0 : Int32).toInt8.toInt32) (by decide) rfl (fits_nar_byte _) (g := (mkF m 11 #[.val (.ref a1), .val (.ref pb), .val (.int (0 : Int32))] [(.int (0 : Int32)), (.ref a1)])) rfl rfl (hb hby d18_11)
  have fw5 : Fld Z h5 a1 "java/lang/String" "coder" "B" (.int (0 : Int32).toInt8.toInt32) := f4.same W5
  have f6 : Exa Z h5 a1 "java/lang/String" := f3.wr W5
  have f7 : Fld Z h5 a1 "java/lang/String" "value" "[B" (.ref pb) := fw2.other W5 (Or.inr (slot_ne (Or.inr (hw _ (List.mem_of_getElem? (i := 30) rfl))) (Or.inr (hw _ (List.mem_of_getElem? (i := 31) rfl))) (by decide) (t := (.array .byte)) (t' := .byte) (by decide) (by decide)))
  have N5 := Fr.snoc X5 N2 g_a1
  have Z5 : n0 ≤ h5.size := Nat.le_trans Z2 (Keep.of_wr W5).1
  have K5 : Keep h0 h5 [a1] := K2.wr W5 (Or.inl (List.mem_of_getElem? (i := 0) rfl))
  refine own_st st5 ?_
  show own_Go p e below K (T5.setTop (mkF m 14 #[.val (.ref a1), .val (.ref pb), .val (.int (0 : Int32))] []))
  try clear X2 e2 st5 f3 fw2
  obtain ⟨fs, hr, hrun, hended, hW, hsame⟩ := X5.leave (v := none) (fun _ => rfl)
  refine ⟨_, X5.returnOut hx Bd.returns (hb hby d18_14) hr, fin _ _ _ hrun hended ?_ ⟨⟨_, rfl⟩, hW, hsame.mono (by decide) (by decide)⟩⟩
  show Q18 Z a1 pb h0 n0 _ T5.heap _
  rw [e5]
  exact ⟨rfl, N5, K5, f6, (own_z8 fw5), f7⟩
theorem d15_0 : decode jdk_42_method_139_code 0 = .ok (.getstatic 38, 3) := by decide +kernel
theorem d15_3 : decode jdk_42_method_139_code 3 = .ok (.ifCond .eq 23, 3) := by decide +kernel
theorem d15_6 : decode jdk_42_method_139_code 6 = .ok (.iload_n 0, 1) := by decide +kernel
theorem d15_7 : decode jdk_42_method_139_code 7 = .ok (.invokestatic 1015, 3) := by decide +kernel
theorem d15_10 : decode jdk_42_method_139_code 10 = .ok (.ifCond .eq 16, 3) := by decide +kernel
theorem d15_13 : decode jdk_42_method_139_code 13 = .ok (.new 10, 3) := by decide +kernel
theorem d15_16 : decode jdk_42_method_139_code 16 = .ok (.dup, 1) := by decide +kernel
theorem d15_17 : decode jdk_42_method_139_code 17 = .ok (.iload_n 0, 1) := by decide +kernel
theorem d15_18 : decode jdk_42_method_139_code 18 = .ok (.invokestatic 1018, 3) := by decide +kernel
theorem d15_21 : decode jdk_42_method_139_code 21 = .ok (.iconst 0, 1) := by decide +kernel
theorem d15_22 : decode jdk_42_method_139_code 22 = .ok (.invokespecial 209, 3) := by decide +kernel
theorem d15_25 : decode jdk_42_method_139_code 25 = .ok (.areturn, 1) := by decide +kernel
theorem pn_15 : plainName "java/lang/String" = true := by first | (simp [plainName, overriddenIn]; done) | decide +kernel
theorem pd_15_14 : parseMethodDescriptor "(C)Z" = some ⟨[.char], some .boolean⟩ := by decide +kernel
theorem pd_15_15 : parseMethodDescriptor "(C)[B" = some ⟨[.char], some (.array .byte)⟩ := by decide +kernel
theorem pd_15_16 : parseMethodDescriptor "([BB)V" = some ⟨[(.array .byte), .byte], none⟩ := by decide +kernel
theorem ef_15 (m : MethodId) (x0 : Int32) : entryFrame m #[(.int x0)] 1 = mkF m 0 #[.val (.int x0)] [] := by first | (simp [entryFrame, mkF, argsToLocals, Value.category]; done) | rfl
def Q15 (Z : State) (p1 : Int32) (cs : Int32) (h0 : Heap) (n0 : Nat) (v : Option Value) (h : Heap) (L : List Loc) : Prop := ∃ (r : Addr) (b : Addr) (k : ClassId), v = some (.ref r) ∧ (True) ∧ h0.size ≤ r ∧ Fr n0 L ∧ Keep h0 h [] ∧ (Exa Z h r "java/lang/String") ∧ (Fld Z h r "java/lang/String" "coder" "B" (.int (0 : Int32))) ∧ (Fld Z h r "java/lang/String" "value" "[B" (.ref b)) ∧ (Arv Z h b k .byte (1 : Int32) [(.int (p1.toInt8.toInt32))] (.int (0 : Int32)))
set_option maxRecDepth 65536 in
set_option maxHeartbeats 40000000 in
theorem rm15 (l : Launch) (Z : State) (a0 : Array Value) (hw : ∀ d ∈ tables_1, d.before a0 Z = true) (ws : List Jvm.Cond) (p1 : Int32) (cs : Int32) (h0 : Heap) (n0 : Nat) (Z0 : n0 ≤ h0.size) (P0 : Old Z n0 h0) (SC : Sta Z Z.heap "java/lang/String" "COMPACT_STRINGS" "Z" (.int cs)) (hcs : ¬ cs = (0 : Int32)) (hb0 : 0 ≤ p1.toInt ∧ p1.toInt ≤ 255) :
    MetFree l (⟨"java/lang/String", "valueOf", "(C)Ljava/lang/String;"⟩ : MethodName) (head1 (Jvm.Cond.code (⟨"java/lang/String", "valueOf", "(C)Ljava/lang/String;"⟩ : MethodName) jdk_42_method_139_code 1 (some (.object "java/lang/String")) :: ws) ({ frames := 2, cells := 2, slots := 5, locals := 27 } : Room)) (fun a U => a = #[(.int p1)] ∧ Z.Warmed39 U.vm ∧ U.heap = h0) (fun _ _ _ _ _ => True) (fun _ U o U' => ∃ v L, o = .returned v ∧ Q15 Z p1 cs h0 n0 v U'.heap L ∧ FrameEnd U o U' L ({ frames := 2, cells := 2, slots := 5, locals := 27 } : Room).cells ({ frames := 2, cells := 2, slots := 5, locals := 27 } : Room).slots) := by
  refine MetFree.of_bodySF (plainFor_of_name pn_15) hisR ?_
  intro p e s m args below meth c s₁ Bd hml0 hP hK
  obtain ⟨rfl, hZ, hh⟩ := hP
  have hx := Bd.exec
  have hby := Bd.bytes
  have hml : c.maxLocals = 1 := hml0
  have hown : s.vm.findClass "java/lang/String" = some m.cls := findClass_of_methodNamed Bd.named
  have hnm := (name_of_methodNamed Bd.named Bd.method).1
  have X0 : Stand p l e ({ frames := 2, cells := 2, slots := 5, locals := 27 } : Room) s m #[(.int p1)] below meth c s₁ [] 0 0 := Stand.of_body Bd
  have e0 : s₁.heap = h0 := by rw [← hh, Bd.state]; rfl
  have N0 := Fr.nil n0
  suffices G0 : ∀ K : State → Prop, (∀ (n : State) (v : Option Value) (L : List Loc), n.status = .running → Ended n below (.returned v) → Q15 Z p1 cs h0 n0 v n.heap L → FrameEnd s (.returned v) n L ({ frames := 2, cells := 2, slots := 5, locals := 27 } : Room).cells ({ frames := 2, cells := 2, slots := 5, locals := 27 } : Room).slots → K n) → own_Go p e below K (s₁.setTop (mkF m 0 #[.val (.int p1)] [])) by
    obtain ⟨t, st, o, a, b, v, L, e1, q, fe⟩ := G0 (fun n => ∃ o, n.status = .running ∧ Ended n below o ∧ ∃ v L, o = .returned v ∧ Q15 Z p1 cs h0 n0 v n.heap L ∧ FrameEnd s o n L ({ frames := 2, cells := 2, slots := 5, locals := 27 } : Room).cells ({ frames := 2, cells := 2, slots := 5, locals := 27 } : Room).slots) (fun n v L a b q f => ⟨_, a, b, v, L, rfl, q, f⟩)
    exact ⟨t, o, castTop (ef_15 m p1) st, a, b, v, L, e1, q, fe⟩
  intro K fin
  show own_Go p e below K (s₁.setTop (mkF m 0 #[.val (.int p1)] []))
  obtain ⟨T1, X1, e1, st1⟩ := getS2 X0 hx hZ hown (host := "") (Or.inl (hw _ (List.mem_of_getElem? (i := 60) rfl))) Via.refl e0 (SC.ext P0.2) (g := (mkF m 0 #[.val (.int p1)] [])) rfl (hb hby d15_0)
  refine own_st st1 ?_
  show own_Go p e below K (T1.setTop (mkF m 3 #[.val (.int p1)] [(.int cs)]))
  try clear st1
  refine own_st (fun t k => XS.ifNo X1.here hx rfl (hb hby d15_3) rfl ((if0 _ _).trans (feq (hcs : ¬ (cs = (0 : Int32)))).1) k) ?_
  show own_Go p e below K (T1.setTop (mkF m 6 #[.val (.int p1)] []))
  refine own_st (fun t k => XS.iloadN X1.here hx rfl (hb hby d15_6) rfl k) ?_
  show own_Go p e below K (T1.setTop (mkF m 7 #[.val (.int p1)] [(.int p1)]))
  obtain ⟨_, _, ⟨T2, L2, k2, n2⟩, -, X2, ⟨Lc2, hQ2, l2, y2, z2⟩, st2⟩ := Jvm.LawKit.callS X1 hx (y := (⟨"java/lang/StringLatin1", "canEncode", "(C)Z"⟩ : MethodName)) hown (mvT hZ (hw _ (List.mem_of_getElem? (i := 80) rfl))) (mvT hZ (hw _ (List.mem_of_getElem? (i := 81) rfl))) (mvT hZ (hw _ (List.mem_of_getElem? (i := 63) rfl))) (mvT hZ (hw _ (List.mem_of_getElem? (i := 82) rfl))) (by decide) (backOf (W := 0) (rm16 l Z a0 hw [] p1 h0 n0 Z0 (by assumption)) hZ (hw _ (List.mem_of_getElem? (i := 82) rfl)) (hw _ (List.mem_of_getElem? (i := 63) rfl)) (by decide) (by decide)) (g := (mkF m 7 #[.val (.int p1)] [(.int p1)])) rfl (by rw [hml]; rfl) (argsL := [(.int p1)]) (rest := []) (lenOf pd_15_14 rfl) rfl (by show 2 * 0 + _ ≤ _; exact Nat.le_of_eq rfl) (hb hby d15_7) (fun _ _ => ⟨rfl, e1, (by decide : 0 + 0 ≤ _), (by decide : 0 + 0 ≤ _)⟩)
  dsimp only [Pt.U, Pt.locs, Pt.cells, Pt.slots] at X2 l2 y2 z2 st2 hQ2
  obtain ⟨r2, rfl, hr2, N2q, e2⟩ := hQ2
  have N2 : Fr n0 L2 := by rw [l2]; exact Fr.app N0 N2q
  clear l2
  have y2' : k2 = 0 := y2
  have z2' : n2 = 0 := z2
  clear y2 z2
  subst y2' z2'
  refine own_st st2 ?_
  show own_Go p e below K (T2.setTop (mkF m 10 #[.val (.int p1)] [(.int r2)]))
  try clear X1 e1 st2 N2q
  refine own_st (fun t k => XS.ifNo X2.here hx rfl (hb hby d15_10) rfl ((if0 _ _).trans (feq ((fun q => absurd (hr2.symm.trans q) (by decide)) : ¬ (r2 = (0 : Int32)))).1) k) ?_
  show own_Go p e below K (T2.setTop (mkF m 13 #[.val (.int p1)] []))
  obtain ⟨T3, h3, X3, e3, E3, A3, D3, -, st3⟩ := newO X2 hx hZ hown (hw _ (List.mem_of_getElem? (i := 59) rfl)) (hw _ (List.mem_of_getElem? (i := 15) rfl)) (hw _ (List.mem_of_getElem? (i := 16) rfl)) e2 (g := (mkF m 13 #[.val (.int p1)] [])) rfl (hb hby d15_13) (by decide) (by decide)
  obtain ⟨b3, g3⟩ : ∃ z, z = h0.size := ⟨_, rfl⟩
  rw [← g3] at A3 D3 st3
  have g_b3 : n0 ≤ b3 := Nat.le_trans Z0 (Nat.le_of_eq g3.symm)
  have sz_b3 : h0.size ≤ b3 := Nat.le_trans (Keep.refl h0 []).1 (Nat.le_of_eq g3.symm)
  have f4 : Old Z n0 h3 := P0.ext E3
  have f5 : Fld Z h3 b3 "java/lang/String" "value" "[B" .null := D3 (Or.inr (hw _ (List.mem_of_getElem? (i := 30) rfl))) (ty := (.array .byte)) (by decide)
  have f6 : Fld Z h3 b3 "java/lang/String" "coder" "B" (.int (0 : Int32)) := D3 (Or.inr (hw _ (List.mem_of_getElem? (i := 31) rfl))) (ty := .byte) (by decide)
  have Z3 : n0 ≤ h3.size := Nat.le_trans Z0 E3.1
  have K3 : Keep h0 h3 [] := (Keep.refl h0 []).ext E3
  refine own_st st3 ?_
  show own_Go p e below K (T3.setTop (mkF m 16 #[.val (.int p1)] [(.ref b3)]))
  try clear X2 e2 st3 P0
  refine own_st (fun t k => XS.dup X3.here hx rfl (hb hby d15_16) rfl rfl k) ?_
  show own_Go p e below K (T3.setTop (mkF m 17 #[.val (.int p1)] [(.ref b3), (.ref b3)]))
  refine own_st (fun t k => XS.iloadN X3.here hx rfl (hb hby d15_17) rfl k) ?_
  show own_Go p e below K (T3.setTop (mkF m 18 #[.val (.int p1)] [(.int p1), (.ref b3), (.ref b3)]))
  obtain ⟨_, _, ⟨T7, L7, k7, n7⟩, -, X7, ⟨Lc7, hQ7, l7, y7, z7⟩, st7⟩ := Jvm.LawKit.callS X3 hx (y := (⟨"java/lang/StringLatin1", "toBytes", "(C)[B"⟩ : MethodName)) hown (mvT hZ (hw _ (List.mem_of_getElem? (i := 83) rfl))) (mvT hZ (hw _ (List.mem_of_getElem? (i := 84) rfl))) (mvT hZ (hw _ (List.mem_of_getElem? (i := 63) rfl))) (mvT hZ (hw _ (List.mem_of_getElem? (i := 85) rfl))) (by decide) (backOf (W := 2) (rm17 l Z a0 hw [] p1 h3 n0 Z3) hZ (hw _ (List.mem_of_getElem? (i := 85) rfl)) (hw _ (List.mem_of_getElem? (i := 63) rfl)) (by decide) (by decide)) (g := (mkF m 18 #[.val (.int p1)] [(.int p1), (.ref b3), (.ref b3)])) rfl (by rw [hml]; rfl) (argsL := [(.int p1)]) (rest := [(.ref b3), (.ref b3)]) (lenOf pd_15_15 rfl) rfl (by show 2 * 0 + _ ≤ _; exact Nat.le_of_eq rfl) (hb hby d15_18) (fun _ _ => ⟨rfl, e3, (by decide : 1 + 1 ≤ _), (by decide : 4 + 1 ≤ _)⟩)
  dsimp only [Pt.U, Pt.locs, Pt.cells, Pt.slots] at X7 l7 y7 z7 st7 hQ7
  obtain ⟨r7, k_7, rfl, hr7, fr7, N7q, Kq7, p7_0⟩ := hQ7
  have N7 : Fr n0 L7 := by rw [l7]; exact Fr.app N2 N7q
  clear l7
  have y7' : k7 = 2 := y7
  have z7' : n7 = 5 := z7
  clear y7 z7
  subst y7' z7'
  have ne_b3_r7 : b3 ≠ r7 := Nat.ne_of_lt (Nat.lt_of_lt_of_le A3.lt fr7)
  have g_r7 : n0 ≤ r7 := Nat.le_trans Z3 fr7
  have sz_r7 : h0.size ≤ r7 := Nat.le_trans K3.1 fr7
  have f8 : Old Z n0 T7.heap := f4.keep Kq7 all0
  have f9 : Exa Z T7.heap b3 "java/lang/String" := A3.keep Kq7
  have f10 : Fld Z T7.heap b3 "java/lang/String" "value" "[B" .null := f5.keep Kq7 nin0
  have f11 : Fld Z T7.heap b3 "java/lang/String" "coder" "B" (.int (0 : Int32)) := f6.keep Kq7 nin0
  have Z7 : n0 ≤ T7.heap.size := Nat.le_trans Z3 Kq7.1
  have K7 : Keep h0 T7.heap [] := K3.trans Kq7 all0
  refine own_st st7 ?_
  show own_Go p e below K (T7.setTop (mkF m 21 #[.val (.int p1)] [(.ref r7), (.ref b3), (.ref b3)]))
  try clear X3 e3 st7 N2 N7q f4 A3 f5 f6
  refine own_st (fun t k => XS.iconst X7.here hx rfl (hb hby d15_21) k) ?_
  show own_Go p e below K (T7.setTop (mkF m 22 #[.val (.int p1)] [(.int (0 : Int32)), (.ref r7), (.ref b3), (.ref b3)]))
  obtain ⟨_, _, ⟨T12, L12, k12, n12⟩, -, X12, ⟨Lc12, hQ12, l12, y12, z12⟩, st12⟩ := X7.specialBack hx (y := (⟨"java/lang/String", "<init>", "([BB)V"⟩ : MethodName)) rfl hown (mvT hZ (hw _ (List.mem_of_getElem? (i := 86) rfl))) (mvT hZ (hw _ (List.mem_of_getElem? (i := 87) rfl))) (mvT hZ (hw _ (List.mem_of_getElem? (i := 88) rfl))) (by decide) (backOf (W := 1) (rm18 l Z a0 hw [] b3 r7 T7.heap n0 Z7 g_b3 f9 f11 f10) hZ (hw _ (List.mem_of_getElem? (i := 88) rfl)) (hw _ (List.mem_of_getElem? (i := 16) rfl)) (by decide) (by decide)) (g := (mkF m 22 #[.val (.int p1)] [(.int (0 : Int32)), (.ref r7), (.ref b3), (.ref b3)])) rfl (by rw [hml]; rfl) (Steps.refl _) (a := b3) (argsL := [(.ref r7), (.int (0 : Int32))]) (rest := [(.ref b3)]) (lenOf pd_15_16 rfl) rfl (by show 2 * 0 + _ ≤ _; exact Nat.le_of_eq rfl) (hb hby d15_22) (fun _ _ => ⟨rfl, rfl, (by decide : 2 + 0 ≤ _), (by decide : 5 + 0 ≤ _)⟩)
  dsimp only [Pt.U, Pt.locs, Pt.cells, Pt.slots] at X12 l12 y12 z12 st12 hQ12
  obtain ⟨rfl, N12q, Kq12, p12_0, p12_1, p12_2⟩ := hQ12
  have N12 : Fr n0 L12 := by rw [l12]; exact Fr.app N7 N12q
  clear l12
  have y12' : k12 = 2 := y12
  have z12' : n12 = 5 := z12
  clear y12 z12
  subst y12' z12'
  have f13 : Old Z n0 T12.heap := f8.keep Kq12 (allS (P := fun x => n0 ≤ x) g_b3 all0)
  have f14 : Arv Z T12.heap r7 k_7 .byte (1 : Int32) [(.int (p1.toInt8.toInt32))] (.int (0 : Int32)) := p7_0.keep Kq12 (ninS (Ne.symm ne_b3_r7) nin0)
  have Z12 : n0 ≤ T12.heap.size := Nat.le_trans Z7 Kq12.1
  have K12 : Keep h0 T12.heap [] := K7.trans Kq12 (allS (P := fun x => x ∈ [] ∨ h0.size ≤ x) (Or.inr sz_b3) all0)
  refine own_tr st12 ?_
  show own_Go p e below K (T12.setTop (mkF m 25 #[.val (.int p1)] [(.ref b3)]))
  try clear X7 st12 N7 N12q f8 p7_0
  obtain ⟨fs, hr, hrun, hended, hW, hsame⟩ := X12.leave (v := some (.ref b3)) (fun h => by rw [Bd.returns] at h; cases h)
  refine ⟨_, X12.areturnOut hx rfl Bd.returns rfl (hb hby d15_25) hr, fin _ _ _ hrun hended ?_ ⟨⟨_, rfl⟩, hW, hsame.mono (by decide) (by decide)⟩⟩
  show Q15 Z p1 cs h0 n0 _ T12.heap _
  exact ⟨_, r7, k_7, rfl, trivial, sz_b3, N12, K12, p12_0, p12_1, p12_2, f14⟩
theorem d1_0 : decode method_3_code 0 = .ok (.iload_n 0, 1) := by decide +kernel
theorem d1_1 : decode method_3_code 1 = .ok (.invokestatic 13, 3) := by decide +kernel
theorem d1_4 : decode method_3_code 4 = .ok (.istore_n 1, 1) := by decide +kernel
theorem d1_5 : decode method_3_code 5 = .ok (.iload_n 0, 1) := by decide +kernel
theorem d1_6 : decode method_3_code 6 = .ok (.sipush 255, 3) := by decide +kernel
theorem d1_9 : decode method_3_code 9 = .ok (.iand, 1) := by decide +kernel
theorem d1_10 : decode method_3_code 10 = .ok (.i2c, 1) := by decide +kernel
theorem d1_11 : decode method_3_code 11 = .ok (.istore_n 2, 1) := by decide +kernel
theorem d1_12 : decode method_3_code 12 = .ok (.iload_n 0, 1) := by decide +kernel
theorem d1_13 : decode method_3_code 13 = .ok (.bipush 8, 2) := by decide +kernel
theorem d1_15 : decode method_3_code 15 = .ok (.iushr, 1) := by decide +kernel
theorem d1_16 : decode method_3_code 16 = .ok (.sipush 255, 3) := by decide +kernel
theorem d1_19 : decode method_3_code 19 = .ok (.iand, 1) := by decide +kernel
theorem d1_20 : decode method_3_code 20 = .ok (.i2c, 1) := by decide +kernel
theorem d1_21 : decode method_3_code 21 = .ok (.istore_n 3, 1) := by decide +kernel
theorem d1_22 : decode method_3_code 22 = .ok (.iload_n 1, 1) := by decide +kernel
theorem d1_23 : decode method_3_code 23 = .ok (.ifCond .ne 14, 3) := by decide +kernel
theorem d1_26 : decode method_3_code 26 = .ok (.new 19, 3) := by decide +kernel
theorem d1_29 : decode method_3_code 29 = .ok (.dup, 1) := by decide +kernel
theorem d1_30 : decode method_3_code 30 = .ok (.iconst 0, 1) := by decide +kernel
theorem d1_31 : decode method_3_code 31 = .ok (.newarray .char, 2) := by decide +kernel
theorem d1_33 : decode method_3_code 33 = .ok (.invokespecial 21, 3) := by decide +kernel
theorem d1_36 : decode method_3_code 36 = .ok (.areturn, 1) := by decide +kernel
theorem d1_37 : decode method_3_code 37 = .ok (.iload_n 1, 1) := by decide +kernel
theorem d1_38 : decode method_3_code 38 = .ok (.iconst 1, 1) := by decide +kernel
theorem d1_39 : decode method_3_code 39 = .ok (.if_icmp .ne 8, 3) := by decide +kernel
theorem d1_42 : decode method_3_code 42 = .ok (.iload_n 2, 1) := by decide +kernel
theorem d1_43 : decode method_3_code 43 = .ok (.invokestatic 24, 3) := by decide +kernel
theorem d1_46 : decode method_3_code 46 = .ok (.areturn, 1) := by decide +kernel
theorem d1_47 : decode method_3_code 47 = .ok (.new 19, 3) := by decide +kernel
theorem d1_50 : decode method_3_code 50 = .ok (.dup, 1) := by decide +kernel
theorem d1_51 : decode method_3_code 51 = .ok (.iconst 2, 1) := by decide +kernel
theorem d1_52 : decode method_3_code 52 = .ok (.newarray .char, 2) := by decide +kernel
theorem d1_54 : decode method_3_code 54 = .ok (.dup, 1) := by decide +kernel
theorem d1_55 : decode method_3_code 55 = .ok (.iconst 0, 1) := by decide +kernel
theorem d1_56 : decode method_3_code 56 = .ok (.iload_n 2, 1) := by decide +kernel
theorem d1_57 : decode method_3_code 57 = .ok (.castore, 1) := by decide +kernel
theorem d1_58 : decode method_3_code 58 = .ok (.dup, 1) := by decide +kernel
theorem d1_59 : decode method_3_code 59 = .ok (.iconst 1, 1) := by decide +kernel
theorem d1_60 : decode method_3_code 60 = .ok (.iload_n 3, 1) := by decide +kernel
theorem d1_61 : decode method_3_code 61 = .ok (.castore, 1) := by decide +kernel
theorem d1_62 : decode method_3_code 62 = .ok (.invokespecial 21, 3) := by decide +kernel
theorem d1_65 : decode method_3_code 65 = .ok (.areturn, 1) := by decide +kernel
theorem pn_1 : plainName "com/example/coverbill/coverbill/book/IdentifierEqualsPinLaw" = true := by first | (simp [plainName, overriddenIn]; done) | decide +kernel
theorem pd_1_1 : parseMethodDescriptor "(I)I" = some ⟨[.int], some .int⟩ := by decide +kernel
theorem pd_1_3 : parseMethodDescriptor "([C)V" = some ⟨[(.array .char)], none⟩ := by decide +kernel
theorem pd_1_13 : parseMethodDescriptor "(C)Ljava/lang/String;" = some ⟨[.char], some (.object "java/lang/String")⟩ := by decide +kernel
theorem ef_1 (m : MethodId) (x0 : Int32) : entryFrame m #[(.int x0)] 4 = mkF m 0 #[.val (.int x0), .unset, .unset, .unset] [] := by first | (simp [entryFrame, mkF, argsToLocals, Value.category]; done) | rfl
def Q1 (Z : State) (p1 : Int32) (cs : Int32) (h0 : Heap) (n0 : Nat) (v : Option Value) (h : Heap) (vm : Vm) (L : List Loc) : Prop := ∃ (r : Addr) (b : Addr) (k : ClassId) (n : Int32), v = some (.ref r) ∧ (True) ∧ h0.size ≤ r ∧ Fr n0 L ∧ Keep h0 h [] ∧ (Exa Z h r "java/lang/String") ∧ (Fld Z h r "java/lang/String" "coder" "B" (.int (0 : Int32))) ∧ (Fld Z h r "java/lang/String" "value" "[B" (.ref b)) ∧ (Arv Z h b k .byte n ((own_S p1).map Value.int) (.int (0 : Int32))) ∧ (n.toInt = ((own_S p1).length : Int)) ∧ (n = 0 ∨ n = 1 ∨ n = 2) ∧ own_W Z vm h
set_option maxRecDepth 65536 in
set_option maxHeartbeats 40000000 in
theorem rm1 (l : Launch) (Z : State) (a0 : Array Value) (hw : ∀ d ∈ tables_1, d.before a0 Z = true) (ws : List Jvm.Cond) (p1 : Int32) (cs : Int32) (h0 : Heap) (n0 : Nat) (Z0 : n0 ≤ h0.size) (P0 : Old Z n0 h0) (SC : Sta Z Z.heap "java/lang/String" "COMPACT_STRINGS" "Z" (.int cs)) (hcs : ¬ cs = (0 : Int32)) (hcH : Jvm.Lit.constHeld Z "java/lang/String" 7) (hcW : Jvm.Lit.compactW.before a0 Z = true) :
    MetFree l (⟨"com/example/coverbill/coverbill/book/IdentifierEqualsPinLaw", "str", "(I)Ljava/lang/String;"⟩ : MethodName) (head1 (Jvm.Cond.code (⟨"com/example/coverbill/coverbill/book/IdentifierEqualsPinLaw", "str", "(I)Ljava/lang/String;"⟩ : MethodName) method_3_code 4 (some (.object "java/lang/String")) :: ws) ({ frames := 4, cells := 4, slots := 8, locals := 66 } : Room)) (fun a U => a = #[(.int p1)] ∧ Z.Warmed39 U.vm ∧ U.heap = h0 ∧ own_W Z U.vm h0) (fun _ _ _ _ _ => True) (fun _ U o U' => ∃ v L, o = .returned v ∧ Q1 Z p1 cs h0 n0 v U'.heap U'.vm L ∧ ReturnedEndW U o U' L ({ frames := 4, cells := 4, slots := 8, locals := 66 } : Room).cells ({ frames := 4, cells := 4, slots := 8, locals := 66 } : Room).slots) := by
  refine MetFree.of_bodySF (plainFor_of_name pn_1) hisR ?_
  intro p e s m args below meth c s₁ Bd hml0 hP hK
  obtain ⟨rfl, hZ, hh, hW0⟩ := hP
  have hx := Bd.exec
  have hby := Bd.bytes
  have hml : c.maxLocals = 4 := hml0
  have hown : s.vm.findClass "com/example/coverbill/coverbill/book/IdentifierEqualsPinLaw" = some m.cls := findClass_of_methodNamed Bd.named
  have hnm := (name_of_methodNamed Bd.named Bd.method).1
  have X0 : Stand p l e ({ frames := 4, cells := 4, slots := 8, locals := 66 } : Room) s m #[(.int p1)] below meth c s₁ [] 0 0 := Stand.of_body Bd
  have e0 : s₁.heap = h0 := by rw [← hh, Bd.state]; rfl
  have N0 := Fr.nil n0
  have hS0 := own_s0 s
  have hG0 : own_G 0 h0 := Nat.zero_le _
  suffices G0 : ∀ K : State → Prop, (∀ (n : State) (v : Option Value) (L : List Loc), n.status = .running → Ended n below (.returned v) → Q1 Z p1 cs h0 n0 v n.heap n.vm L → ReturnedEndW s (.returned v) n L ({ frames := 4, cells := 4, slots := 8, locals := 66 } : Room).cells ({ frames := 4, cells := 4, slots := 8, locals := 66 } : Room).slots → K n) → own_Go p e below K (s₁.setTop (mkF m 0 #[.val (.int p1), .unset, .unset, .unset] [])) by
    obtain ⟨t, st, o, a, b, v, L, e1, q, fe⟩ := G0 (fun n => ∃ o, n.status = .running ∧ Ended n below o ∧ ∃ v L, o = .returned v ∧ Q1 Z p1 cs h0 n0 v n.heap n.vm L ∧ ReturnedEndW s o n L ({ frames := 4, cells := 4, slots := 8, locals := 66 } : Room).cells ({ frames := 4, cells := 4, slots := 8, locals := 66 } : Room).slots) (fun n v L a b q f => ⟨_, a, b, v, L, rfl, q, f⟩)
    exact ⟨t, o, castTop (ef_1 m p1) st, a, b, v, L, e1, q, fe⟩
  intro K fin
  show own_Go p e below K (s₁.setTop (mkF m 0 #[.val (.int p1), .unset, .unset, .unset] []))
  rcases hW0 with hI0 | ⟨la, lb, lk, hL0, xE, xC, xV, xA⟩
  · show own_Go p e below K (s₁.setTop (mkF m 0 #[.val (.int p1), .unset, .unset, .unset] []))
    refine own_st (fun t k => XS.iloadN X0.here hx rfl (hb hby d1_0) rfl k) ?_
    show own_Go p e below K (s₁.setTop (mkF m 1 #[.val (.int p1), .unset, .unset, .unset] [(.int p1)]))
    obtain ⟨_, _, ⟨T1, L1, k1, n1⟩, -, X1, ⟨Lc1, hQ1, l1, y1, z1⟩, st1⟩ := Jvm.LawKit.callS X0 hx (y := (⟨"com/example/coverbill/coverbill/book/IdentifierEqualsPinLaw", "len", "(I)I"⟩ : MethodName)) hown (mvT hZ (hw _ (List.mem_of_getElem? (i := 7) rfl))) (mvT hZ (hw _ (List.mem_of_getElem? (i := 8) rfl))) (mvT hZ (hw _ (List.mem_of_getElem? (i := 5) rfl))) (mvT hZ (hw _ (List.mem_of_getElem? (i := 9) rfl))) (by decide) (backOf (W := 0) (rm2 l Z a0 hw [] p1 h0 n0 Z0) hZ (hw _ (List.mem_of_getElem? (i := 9) rfl)) (hw _ (List.mem_of_getElem? (i := 5) rfl)) (by decide) (by decide)) (g := (mkF m 1 #[.val (.int p1), .unset, .unset, .unset] [(.int p1)])) rfl (by rw [hml]; rfl) (argsL := [(.int p1)]) (rest := []) (lenOf pd_1_1 rfl) rfl (by show 2 * 0 + _ ≤ _; exact Nat.le_of_eq rfl) (hb hby d1_1) (fun _ _ => ⟨rfl, e0, (by decide : 0 + 0 ≤ _), (by decide : 0 + 0 ≤ _)⟩)
    dsimp only [Pt.U, Pt.locs, Pt.cells, Pt.slots] at X1 l1 y1 z1 st1 hQ1
    obtain ⟨r1, rfl, hr1, N1q, e1⟩ := hQ1
    have N1 : Fr n0 L1 := by rw [l1]; exact Fr.app N0 N1q
    clear l1
    have y1' : k1 = 0 := y1
    have z1' : n1 = 0 := z1
    clear y1 z1
    subst y1' z1'
    refine own_st st1 ?_
    show own_Go p e below K (T1.setTop (mkF m 4 #[.val (.int p1), .unset, .unset, .unset] [(.int r1)]))
    try clear st1 N1q
    rcases (own_r3 hr1) with hs | hs | hs
    · subst hs
      show own_Go p e below K (T1.setTop (mkF m 4 #[.val (.int p1), .unset, .unset, .unset] [(.int (0 : Int32))]))
      refine own_st (fun t k => XS.istoreN X1.here hx rfl (hb hby d1_4) rfl (l' := #[.val (.int p1), .val (.int (0 : Int32)), .unset, .unset]) rfl k) ?_
      show own_Go p e below K (T1.setTop (mkF m 5 #[.val (.int p1), .val (.int (0 : Int32)), .unset, .unset] []))
      refine own_st (fun t k => XS.iloadN X1.here hx rfl (hb hby d1_5) rfl k) ?_
      show own_Go p e below K (T1.setTop (mkF m 6 #[.val (.int p1), .val (.int (0 : Int32)), .unset, .unset] [(.int p1)]))
      refine own_st (fun t k => XS.sipush X1.here hx rfl (hb hby d1_6) k) ?_
      show own_Go p e below K (T1.setTop (mkF m 9 #[.val (.int p1), .val (.int (0 : Int32)), .unset, .unset] [(.int (255 : Int32)), (.int p1)]))
      refine own_st (fun t k => XS.iand X1.here hx rfl (hb hby d1_9) rfl k) ?_
      show own_Go p e below K (T1.setTop (mkF m 10 #[.val (.int p1), .val (.int (0 : Int32)), .unset, .unset] [(.int (p1 &&& (255 : Int32)))]))
      refine own_st (fun t k => XS.i2c X1.here hx rfl (hb hby d1_10) rfl k) ?_
      show own_Go p e below K (T1.setTop (mkF m 11 #[.val (.int p1), .val (.int (0 : Int32)), .unset, .unset] [(.int ((p1 &&& (255 : Int32)).toUInt32.toUInt16.toUInt32.toInt32))]))
      generalize hc0 : ((p1 &&& (255 : Int32)).toUInt32.toUInt16.toUInt32.toInt32) = c0
      show own_Go p e below K (T1.setTop (mkF m 11 #[.val (.int p1), .val (.int (0 : Int32)), .unset, .unset] [(.int c0)]))
      have hd0 := own_c hc0
      have hb0 := hd0 ▸ own_b255 p1
      refine own_st (fun t k => XS.istoreN X1.here hx rfl (hb hby d1_11) rfl (l' := #[.val (.int p1), .val (.int (0 : Int32)), .val (.int c0), .unset]) rfl k) ?_
      show own_Go p e below K (T1.setTop (mkF m 12 #[.val (.int p1), .val (.int (0 : Int32)), .val (.int c0), .unset] []))
      refine own_st (fun t k => XS.iloadN X1.here hx rfl (hb hby d1_12) rfl k) ?_
      show own_Go p e below K (T1.setTop (mkF m 13 #[.val (.int p1), .val (.int (0 : Int32)), .val (.int c0), .unset] [(.int p1)]))
      refine own_st (fun t k => XS.bipush X1.here hx rfl (hb hby d1_13) k) ?_
      show own_Go p e below K (T1.setTop (mkF m 15 #[.val (.int p1), .val (.int (0 : Int32)), .val (.int c0), .unset] [(.int (8 : Int32)), (.int p1)]))
      refine own_st (fun t k => XS.iushr X1.here hx rfl (hb hby d1_15) rfl k) ?_
      show own_Go p e below K (T1.setTop (mkF m 16 #[.val (.int p1), .val (.int (0 : Int32)), .val (.int c0), .unset] [(.int ((p1.toUInt32 >>> ((8 : Int32) &&& 31).toUInt32).toInt32))]))
      refine own_st (fun t k => XS.sipush X1.here hx rfl (hb hby d1_16) k) ?_
      show own_Go p e below K (T1.setTop (mkF m 19 #[.val (.int p1), .val (.int (0 : Int32)), .val (.int c0), .unset] [(.int (255 : Int32)), (.int ((p1.toUInt32 >>> ((8 : Int32) &&& 31).toUInt32).toInt32))]))
      refine own_st (fun t k => XS.iand X1.here hx rfl (hb hby d1_19) rfl k) ?_
      show own_Go p e below K (T1.setTop (mkF m 20 #[.val (.int p1), .val (.int (0 : Int32)), .val (.int c0), .unset] [(.int (((p1.toUInt32 >>> ((8 : Int32) &&& 31).toUInt32).toInt32) &&& (255 : Int32)))]))
      refine own_st (fun t k => XS.i2c X1.here hx rfl (hb hby d1_20) rfl k) ?_
      show own_Go p e below K (T1.setTop (mkF m 21 #[.val (.int p1), .val (.int (0 : Int32)), .val (.int c0), .unset] [(.int ((((p1.toUInt32 >>> ((8 : Int32) &&& 31).toUInt32).toInt32) &&& (255 : Int32)).toUInt32.toUInt16.toUInt32.toInt32))]))
      generalize hc1 : ((((p1.toUInt32 >>> ((8 : Int32) &&& 31).toUInt32).toInt32) &&& (255 : Int32)).toUInt32.toUInt16.toUInt32.toInt32) = c1
      show own_Go p e below K (T1.setTop (mkF m 21 #[.val (.int p1), .val (.int (0 : Int32)), .val (.int c0), .unset] [(.int c1)]))
      have hd1 := own_c hc1
      have hb1 := hd1 ▸ own_b255 ((p1.toUInt32 >>> ((8 : Int32) &&& 31).toUInt32).toInt32)
      refine own_st (fun t k => XS.istoreN X1.here hx rfl (hb hby d1_21) rfl (l' := #[.val (.int p1), .val (.int (0 : Int32)), .val (.int c0), .val (.int c1)]) rfl k) ?_
      show own_Go p e below K (T1.setTop (mkF m 22 #[.val (.int p1), .val (.int (0 : Int32)), .val (.int c0), .val (.int c1)] []))
      refine own_st (fun t k => XS.iloadN X1.here hx rfl (hb hby d1_22) rfl k) ?_
      show own_Go p e below K (T1.setTop (mkF m 23 #[.val (.int p1), .val (.int (0 : Int32)), .val (.int c0), .val (.int c1)] [(.int (0 : Int32))]))
      refine own_st (fun t k => XS.ifNo X1.here hx rfl (hb hby d1_23) rfl ((if0 _ _).trans (teq (by decide : (0 : Int32) = (0 : Int32))).2) k) ?_
      show own_Go p e below K (T1.setTop (mkF m 26 #[.val (.int p1), .val (.int (0 : Int32)), .val (.int c0), .val (.int c1)] []))
      obtain ⟨T2, h2, X2, e2, E2, A2, D2, -, st2⟩ := newO X1 hx hZ hown (hw _ (List.mem_of_getElem? (i := 14) rfl)) (hw _ (List.mem_of_getElem? (i := 15) rfl)) (hw _ (List.mem_of_getElem? (i := 16) rfl)) e1 (g := (mkF m 26 #[.val (.int p1), .val (.int (0 : Int32)), .val (.int c0), .val (.int c1)] [])) rfl (hb hby d1_26) (by decide) (by decide)
      obtain ⟨b2, g2⟩ : ∃ z, z = h0.size := ⟨_, rfl⟩
      rw [← g2] at A2 D2 st2
      have g_b2 : n0 ≤ b2 := Nat.le_trans Z0 (Nat.le_of_eq g2.symm)
      have sz_b2 : h0.size ≤ b2 := Nat.le_trans (Keep.refl h0 []).1 (Nat.le_of_eq g2.symm)
      have f3 : Old Z n0 h2 := P0.ext E2
      have f4 : own_G 0 h2 := hG0.ext E2
      have f5 : Fld Z h2 b2 "java/lang/String" "value" "[B" .null := D2 (Or.inr (hw _ (List.mem_of_getElem? (i := 30) rfl))) (ty := (.array .byte)) (by decide)
      have f6 : Fld Z h2 b2 "java/lang/String" "coder" "B" (.int (0 : Int32)) := D2 (Or.inr (hw _ (List.mem_of_getElem? (i := 31) rfl))) (ty := .byte) (by decide)
      have Z2 : n0 ≤ h2.size := Nat.le_trans Z0 E2.1
      have K2 : Keep h0 h2 [] := (Keep.refl h0 []).ext E2
      refine own_st st2 ?_
      show own_Go p e below K (T2.setTop (mkF m 29 #[.val (.int p1), .val (.int (0 : Int32)), .val (.int c0), .val (.int c1)] [(.ref b2)]))
      try clear X1 e1 st2 P0 hG0
      refine own_st (fun t k => XS.dup X2.here hx rfl (hb hby d1_29) rfl rfl k) ?_
      show own_Go p e below K (T2.setTop (mkF m 30 #[.val (.int p1), .val (.int (0 : Int32)), .val (.int c0), .val (.int c1)] [(.ref b2), (.ref b2)]))
      refine own_st (fun t k => XS.iconst X2.here hx rfl (hb hby d1_30) k) ?_
      show own_Go p e below K (T2.setTop (mkF m 31 #[.val (.int p1), .val (.int (0 : Int32)), .val (.int c0), .val (.int c1)] [(.int (0 : Int32)), (.ref b2), (.ref b2)]))
      obtain ⟨T7, h7, k7, X7, e7, E7, A7, st7⟩ := newP X2 hx hZ (hw _ (List.mem_of_getElem? (i := 17) rfl)) e2 (g := (mkF m 31 #[.val (.int p1), .val (.int (0 : Int32)), .val (.int c0), .val (.int c1)] [(.int (0 : Int32)), (.ref b2), (.ref b2)])) rfl (hb hby d1_31) rfl (by decide) (cap := 0) (by decide) (by decide) (by decide) (by decide)
      obtain ⟨b7, g7⟩ : ∃ z, z = h2.size := ⟨_, rfl⟩
      rw [← g7] at A7 st7
      have ne_b2_b7 : b2 ≠ b7 := Nat.ne_of_lt (Nat.lt_of_lt_of_le A2.lt (Nat.le_of_eq g7.symm))
      have g_b7 : n0 ≤ b7 := Nat.le_trans Z2 (Nat.le_of_eq g7.symm)
      have sz_b7 : h0.size ≤ b7 := Nat.le_trans K2.1 (Nat.le_of_eq g7.symm)
      have f8 : Old Z n0 h7 := f3.ext E7
      have f9 : own_G 0 h7 := f4.ext E7
      have f10 : Exa Z h7 b2 "java/lang/String" := A2.ext E7
      have f11 : Fld Z h7 b2 "java/lang/String" "value" "[B" .null := f5.ext E7
      have f12 : Fld Z h7 b2 "java/lang/String" "coder" "B" (.int (0 : Int32)) := f6.ext E7
      have V7 : Arv Z h7 b7 k7 .char (0 : Int32) [] (.int (0 : Int32)) := (Arv.new A7 (by decide)).pad (pad_rep [] (.int (0 : Int32)) 0)
      have Z7 : n0 ≤ h7.size := Nat.le_trans Z2 E7.1
      have K7 : Keep h0 h7 [] := K2.ext E7
      refine own_st st7 ?_
      show own_Go p e below K (T7.setTop (mkF m 33 #[.val (.int p1), .val (.int (0 : Int32)), .val (.int c0), .val (.int c1)] [(.ref b7), (.ref b2), (.ref b2)]))
      try clear X2 e2 st7 f3 f4 A2 f5 f6
      obtain ⟨_, _, ⟨T13, L13, k13, n13⟩, -, X13b, hSq13, hgr13, ⟨Lc13, hQ13, l13, y13, z13⟩, st13⟩ := X7.specialBackS hx (y := (⟨"java/lang/String", "<init>", "([C)V"⟩ : MethodName)) rfl hown (mvT hZ (hw _ (List.mem_of_getElem? (i := 18) rfl))) (mvT hZ (hw _ (List.mem_of_getElem? (i := 19) rfl))) (mvT hZ (hw _ (List.mem_of_getElem? (i := 20) rfl))) (by decide) (own_backS (W := 1) (V := fun vm => own_W Z vm h7) (rm4w l Z a0 hw [] b2 b7 (k7) h7 n0 Z7 g_b2 ne_b2_b7 f10 f12 f11 V7 f8 (by assumption) (by assumption)) hZ (fun vm' w => own_W.warm (s := s) (show own_W Z s.vm h7 from Or.inl hI0) w) (hw _ (List.mem_of_getElem? (i := 20) rfl)) (hw _ (List.mem_of_getElem? (i := 16) rfl)) (by decide) (by decide)) (g := (mkF m 33 #[.val (.int p1), .val (.int (0 : Int32)), .val (.int c0), .val (.int c1)] [(.ref b7), (.ref b2), (.ref b2)])) rfl (by rw [hml]; rfl) (Steps.refl _) (a := b2) (argsL := [(.ref b7)]) (rest := [(.ref b2)]) (lenOf pd_1_3 rfl) rfl (by show 2 * 0 + _ ≤ _; exact Nat.le_of_eq rfl) (hb hby d1_33) (fun _ _ => ⟨rfl, e7, (by decide : 2 + 2 ≤ _), (by decide : 4 + 4 ≤ _)⟩)
      dsimp only [Pt.U, Pt.locs, Pt.cells, Pt.slots] at X13b l13 y13 z13 st13 hQ13 hSq13 hgr13
      have X13 : Stand p l e ({ frames := 4, cells := 4, slots := 8, locals := 66 } : Room) (s.setVm T13.vm) m #[(.int p1)] below meth c T13 L13 k13 n13 := X13b
      clear X13b
      have hS13 : s.Since T13.vm T13.heap.size := hS0.trans (n₂ := T13.heap.size) hSq13 (Nat.le_trans (Nat.le_trans f9 (Nat.le_of_eq (congrArg Array.size (e7)).symm)) hgr13)
      have hZ : Z.Warmed39 (s.setVm T13.vm).vm := State.Warmed39.trans (t := s) hZ hSq13.1
      have hown : (s.setVm T13.vm).vm.findClass "com/example/coverbill/coverbill/book/IdentifierEqualsPinLaw" = some m.cls := by rw [show (s.setVm T13.vm).vm = T13.vm from rfl, hSq13.1.alike.findClass]; exact hown
      obtain ⟨b_13, k_13, rfl, N13q, Kq13, p13_0, p13_1, p13_2, p13_3, pW13⟩ := hQ13
      have N13 : Fr n0 L13 := by rw [l13]; exact Fr.app N1 N13q
      clear l13
      have y13' : k13 = 4 := y13
      have z13' : n13 = 8 := z13
      clear y13 z13
      subst y13' z13'
      have f14 : Old Z n0 T13.heap := f8.keep Kq13 (allS (P := fun x => n0 ≤ x) g_b2 all0)
      have f15 : Arv Z T13.heap b7 k7 .char (0 : Int32) [] (.int (0 : Int32)) := V7.keep Kq13 (ninS (Ne.symm ne_b2_b7) nin0)
      have hG13 : own_G T13.heap.size T13.heap := Nat.le_refl _
      have Z13 : n0 ≤ T13.heap.size := Nat.le_trans Z7 Kq13.1
      have K13 : Keep h0 T13.heap [] := K7.trans Kq13 (allS (P := fun x => x ∈ [] ∨ h0.size ≤ x) (Or.inr sz_b2) all0)
      refine own_tr st13 ?_
      show own_Go p e below K (T13.setTop (mkF m 36 #[.val (.int p1), .val (.int (0 : Int32)), .val (.int c0), .val (.int c1)] [(.ref b2)]))
      try clear X7 e7 st13 N1 N13q f8 V7
      obtain ⟨fs, hr, hrun, hended, hEW⟩ := X13.leaveW hS13 hG13 (v := some (.ref b2)) (fun h => by rw [Bd.returns] at h; cases h)
      refine ⟨_, X13.areturnOut hx rfl Bd.returns rfl (hb hby d1_36) hr, fin _ _ _ hrun hended ?_ ⟨hEW.1, hEW.2.1, hEW.2.2.1, hEW.2.2.2.mono (by decide) (by decide)⟩⟩
      show Q1 Z p1 cs h0 n0 _ T13.heap T13.vm _
      exact ⟨_, b_13, k_13, (0 : Int32), rfl, trivial, sz_b2, N13, K13, p13_0, p13_1, p13_2, (by rw [own_S0 hr1]; exact p13_3), (by rw [own_S0 hr1]; rfl), (Or.inl rfl), (own_W.warm (s := (s.setVm T13.vm)) pW13 X13.warmed)⟩
    · subst hs
      show own_Go p e below K (T1.setTop (mkF m 4 #[.val (.int p1), .unset, .unset, .unset] [(.int (1 : Int32))]))
      refine own_st (fun t k => XS.istoreN X1.here hx rfl (hb hby d1_4) rfl (l' := #[.val (.int p1), .val (.int (1 : Int32)), .unset, .unset]) rfl k) ?_
      show own_Go p e below K (T1.setTop (mkF m 5 #[.val (.int p1), .val (.int (1 : Int32)), .unset, .unset] []))
      refine own_st (fun t k => XS.iloadN X1.here hx rfl (hb hby d1_5) rfl k) ?_
      show own_Go p e below K (T1.setTop (mkF m 6 #[.val (.int p1), .val (.int (1 : Int32)), .unset, .unset] [(.int p1)]))
      refine own_st (fun t k => XS.sipush X1.here hx rfl (hb hby d1_6) k) ?_
      show own_Go p e below K (T1.setTop (mkF m 9 #[.val (.int p1), .val (.int (1 : Int32)), .unset, .unset] [(.int (255 : Int32)), (.int p1)]))
      refine own_st (fun t k => XS.iand X1.here hx rfl (hb hby d1_9) rfl k) ?_
      show own_Go p e below K (T1.setTop (mkF m 10 #[.val (.int p1), .val (.int (1 : Int32)), .unset, .unset] [(.int (p1 &&& (255 : Int32)))]))
      refine own_st (fun t k => XS.i2c X1.here hx rfl (hb hby d1_10) rfl k) ?_
      show own_Go p e below K (T1.setTop (mkF m 11 #[.val (.int p1), .val (.int (1 : Int32)), .unset, .unset] [(.int ((p1 &&& (255 : Int32)).toUInt32.toUInt16.toUInt32.toInt32))]))
      generalize hc0 : ((p1 &&& (255 : Int32)).toUInt32.toUInt16.toUInt32.toInt32) = c0
      show own_Go p e below K (T1.setTop (mkF m 11 #[.val (.int p1), .val (.int (1 : Int32)), .unset, .unset] [(.int c0)]))
      have hd0 := own_c hc0
      have hb0 := hd0 ▸ own_b255 p1
      refine own_st (fun t k => XS.istoreN X1.here hx rfl (hb hby d1_11) rfl (l' := #[.val (.int p1), .val (.int (1 : Int32)), .val (.int c0), .unset]) rfl k) ?_
      show own_Go p e below K (T1.setTop (mkF m 12 #[.val (.int p1), .val (.int (1 : Int32)), .val (.int c0), .unset] []))
      refine own_st (fun t k => XS.iloadN X1.here hx rfl (hb hby d1_12) rfl k) ?_
      show own_Go p e below K (T1.setTop (mkF m 13 #[.val (.int p1), .val (.int (1 : Int32)), .val (.int c0), .unset] [(.int p1)]))
      refine own_st (fun t k => XS.bipush X1.here hx rfl (hb hby d1_13) k) ?_
      show own_Go p e below K (T1.setTop (mkF m 15 #[.val (.int p1), .val (.int (1 : Int32)), .val (.int c0), .unset] [(.int (8 : Int32)), (.int p1)]))
      refine own_st (fun t k => XS.iushr X1.here hx rfl (hb hby d1_15) rfl k) ?_
      show own_Go p e below K (T1.setTop (mkF m 16 #[.val (.int p1), .val (.int (1 : Int32)), .val (.int c0), .unset] [(.int ((p1.toUInt32 >>> ((8 : Int32) &&& 31).toUInt32).toInt32))]))
      refine own_st (fun t k => XS.sipush X1.here hx rfl (hb hby d1_16) k) ?_
      show own_Go p e below K (T1.setTop (mkF m 19 #[.val (.int p1), .val (.int (1 : Int32)), .val (.int c0), .unset] [(.int (255 : Int32)), (.int ((p1.toUInt32 >>> ((8 : Int32) &&& 31).toUInt32).toInt32))]))
      refine own_st (fun t k => XS.iand X1.here hx rfl (hb hby d1_19) rfl k) ?_
      show own_Go p e below K (T1.setTop (mkF m 20 #[.val (.int p1), .val (.int (1 : Int32)), .val (.int c0), .unset] [(.int (((p1.toUInt32 >>> ((8 : Int32) &&& 31).toUInt32).toInt32) &&& (255 : Int32)))]))
      refine own_st (fun t k => XS.i2c X1.here hx rfl (hb hby d1_20) rfl k) ?_
      show own_Go p e below K (T1.setTop (mkF m 21 #[.val (.int p1), .val (.int (1 : Int32)), .val (.int c0), .unset] [(.int ((((p1.toUInt32 >>> ((8 : Int32) &&& 31).toUInt32).toInt32) &&& (255 : Int32)).toUInt32.toUInt16.toUInt32.toInt32))]))
      generalize hc1 : ((((p1.toUInt32 >>> ((8 : Int32) &&& 31).toUInt32).toInt32) &&& (255 : Int32)).toUInt32.toUInt16.toUInt32.toInt32) = c1
      show own_Go p e below K (T1.setTop (mkF m 21 #[.val (.int p1), .val (.int (1 : Int32)), .val (.int c0), .unset] [(.int c1)]))
      have hd1 := own_c hc1
      have hb1 := hd1 ▸ own_b255 ((p1.toUInt32 >>> ((8 : Int32) &&& 31).toUInt32).toInt32)
      refine own_st (fun t k => XS.istoreN X1.here hx rfl (hb hby d1_21) rfl (l' := #[.val (.int p1), .val (.int (1 : Int32)), .val (.int c0), .val (.int c1)]) rfl k) ?_
      show own_Go p e below K (T1.setTop (mkF m 22 #[.val (.int p1), .val (.int (1 : Int32)), .val (.int c0), .val (.int c1)] []))
      refine own_st (fun t k => XS.iloadN X1.here hx rfl (hb hby d1_22) rfl k) ?_
      show own_Go p e below K (T1.setTop (mkF m 23 #[.val (.int p1), .val (.int (1 : Int32)), .val (.int c0), .val (.int c1)] [(.int (1 : Int32))]))
      refine own_st (fun t k => XS.ifYes X1.here hx rfl (pc0 := 23) (pc' := 37) rfl (hb hby d1_23) rfl ((if0 _ _).trans (feq (by decide : ¬ ((1 : Int32) = (0 : Int32)))).2) (by decide) (by decide) k) ?_
      show own_Go p e below K (T1.setTop (mkF m 37 #[.val (.int p1), .val (.int (1 : Int32)), .val (.int c0), .val (.int c1)] []))
      refine own_st (fun t k => XS.iloadN X1.here hx rfl (hb hby d1_37) rfl k) ?_
      show own_Go p e below K (T1.setTop (mkF m 38 #[.val (.int p1), .val (.int (1 : Int32)), .val (.int c0), .val (.int c1)] [(.int (1 : Int32))]))
      refine own_st (fun t k => XS.iconst X1.here hx rfl (hb hby d1_38) k) ?_
      show own_Go p e below K (T1.setTop (mkF m 39 #[.val (.int p1), .val (.int (1 : Int32)), .val (.int c0), .val (.int c1)] [(.int (1 : Int32)), (.int (1 : Int32))]))
      refine own_st (fun t k => XS.icmpNo X1.here hx rfl (hb hby d1_39) rfl (teq (by decide : (1 : Int32) = (1 : Int32))).2 k) ?_
      show own_Go p e below K (T1.setTop (mkF m 42 #[.val (.int p1), .val (.int (1 : Int32)), .val (.int c0), .val (.int c1)] []))
      refine own_st (fun t k => XS.iloadN X1.here hx rfl (hb hby d1_42) rfl k) ?_
      show own_Go p e below K (T1.setTop (mkF m 43 #[.val (.int p1), .val (.int (1 : Int32)), .val (.int c0), .val (.int c1)] [(.int c0)]))
      obtain ⟨_, _, ⟨T16, L16, k16, n16⟩, -, X16, ⟨Lc16, hQ16, l16, y16, z16⟩, st16⟩ := Jvm.LawKit.callS X1 hx (y := (⟨"java/lang/String", "valueOf", "(C)Ljava/lang/String;"⟩ : MethodName)) hown (mvT hZ (hw _ (List.mem_of_getElem? (i := 77) rfl))) (mvT hZ (hw _ (List.mem_of_getElem? (i := 78) rfl))) (mvT hZ (hw _ (List.mem_of_getElem? (i := 16) rfl))) (mvT hZ (hw _ (List.mem_of_getElem? (i := 79) rfl))) (by decide) (backOf (W := 0) (rm15 l Z a0 hw [] c0 (cs) h0 n0 Z0 P0 (by assumption) (by assumption) (by assumption)) hZ (hw _ (List.mem_of_getElem? (i := 79) rfl)) (hw _ (List.mem_of_getElem? (i := 16) rfl)) (by decide) (by decide)) (g := (mkF m 43 #[.val (.int p1), .val (.int (1 : Int32)), .val (.int c0), .val (.int c1)] [(.int c0)])) rfl (by rw [hml]; rfl) (argsL := [(.int c0)]) (rest := []) (lenOf pd_1_13 rfl) rfl (by show 2 * 0 + _ ≤ _; exact Nat.le_of_eq rfl) (hb hby d1_43) (fun _ _ => ⟨rfl, e1, (by decide : 0 + 2 ≤ _), (by decide : 0 + 5 ≤ _)⟩)
      dsimp only [Pt.U, Pt.locs, Pt.cells, Pt.slots] at X16 l16 y16 z16 st16 hQ16
      obtain ⟨r16, b_16, k_16, rfl, hr16, fr16, N16q, Kq16, p16_0, p16_1, p16_2, p16_3⟩ := hQ16
      have N16 : Fr n0 L16 := by rw [l16]; exact Fr.app N1 N16q
      clear l16
      have y16' : k16 = 2 := y16
      have z16' : n16 = 5 := z16
      clear y16 z16
      subst y16' z16'
      have g_r16 : n0 ≤ r16 := Nat.le_trans Z0 fr16
      have sz_r16 : h0.size ≤ r16 := Nat.le_trans (Keep.refl h0 []).1 fr16
      have f17 : Old Z n0 T16.heap := P0.keep Kq16 all0
      have f18 : own_G 0 T16.heap := hG0.keep Kq16
      have Z16 : n0 ≤ T16.heap.size := Nat.le_trans Z0 Kq16.1
      have K16 : Keep h0 T16.heap [] := (Keep.refl h0 []).trans Kq16 all0
      refine own_st st16 ?_
      show own_Go p e below K (T16.setTop (mkF m 46 #[.val (.int p1), .val (.int (1 : Int32)), .val (.int c0), .val (.int c1)] [(.ref r16)]))
      try clear X1 e1 st16 N1 N16q P0 hG0
      obtain ⟨fs, hr, hrun, hended, hEW⟩ := (show Stand p l e ({ frames := 4, cells := 4, slots := 8, locals := 66 } : Room) (s.setVm s.vm) m #[(.int p1)] below meth c T16 _ 2 5 from X16).leaveW hS0 f18 (v := some (.ref r16)) (fun h => by rw [Bd.returns] at h; cases h)
      refine ⟨_, X16.areturnOut hx rfl Bd.returns rfl (hb hby d1_46) hr, fin _ _ _ hrun hended ?_ ⟨hEW.1, hEW.2.1, hEW.2.2.1, hEW.2.2.2.mono (by decide) (by decide)⟩⟩
      show Q1 Z p1 cs h0 n0 _ T16.heap T16.vm _
      exact ⟨_, b_16, k_16, (1 : Int32), rfl, trivial, sz_r16, N16, K16, p16_0, p16_1, p16_2, (by rw [own_S1 hr1 hd0]; exact p16_3), (by rw [own_S1 hr1 hd0]; rfl), (Or.inr (Or.inl rfl)), (own_W.warm (s := s) (show own_W Z s.vm T16.heap from Or.inl hI0) X16.warmed)⟩
    subst hs
    show own_Go p e below K (T1.setTop (mkF m 4 #[.val (.int p1), .unset, .unset, .unset] [(.int (2 : Int32))]))
    refine own_st (fun t k => XS.istoreN X1.here hx rfl (hb hby d1_4) rfl (l' := #[.val (.int p1), .val (.int (2 : Int32)), .unset, .unset]) rfl k) ?_
    show own_Go p e below K (T1.setTop (mkF m 5 #[.val (.int p1), .val (.int (2 : Int32)), .unset, .unset] []))
    refine own_st (fun t k => XS.iloadN X1.here hx rfl (hb hby d1_5) rfl k) ?_
    show own_Go p e below K (T1.setTop (mkF m 6 #[.val (.int p1), .val (.int (2 : Int32)), .unset, .unset] [(.int p1)]))
    refine own_st (fun t k => XS.sipush X1.here hx rfl (hb hby d1_6) k) ?_
    show own_Go p e below K (T1.setTop (mkF m 9 #[.val (.int p1), .val (.int (2 : Int32)), .unset, .unset] [(.int (255 : Int32)), (.int p1)]))
    refine own_st (fun t k => XS.iand X1.here hx rfl (hb hby d1_9) rfl k) ?_
    show own_Go p e below K (T1.setTop (mkF m 10 #[.val (.int p1), .val (.int (2 : Int32)), .unset, .unset] [(.int (p1 &&& (255 : Int32)))]))
    refine own_st (fun t k => XS.i2c X1.here hx rfl (hb hby d1_10) rfl k) ?_
    show own_Go p e below K (T1.setTop (mkF m 11 #[.val (.int p1), .val (.int (2 : Int32)), .unset, .unset] [(.int ((p1 &&& (255 : Int32)).toUInt32.toUInt16.toUInt32.toInt32))]))
    generalize hc0 : ((p1 &&& (255 : Int32)).toUInt32.toUInt16.toUInt32.toInt32) = c0
    show own_Go p e below K (T1.setTop (mkF m 11 #[.val (.int p1), .val (.int (2 : Int32)), .unset, .unset] [(.int c0)]))
    have hd0 := own_c hc0
    have hb0 := hd0 ▸ own_b255 p1
    refine own_st (fun t k => XS.istoreN X1.here hx rfl (hb hby d1_11) rfl (l' := #[.val (.int p1), .val (.int (2 : Int32)), .val (.int c0), .unset]) rfl k) ?_
    show own_Go p e below K (T1.setTop (mkF m 12 #[.val (.int p1), .val (.int (2 : Int32)), .val (.int c0), .unset] []))
    refine own_st (fun t k => XS.iloadN X1.here hx rfl (hb hby d1_12) rfl k) ?_
    show own_Go p e below K (T1.setTop (mkF m 13 #[.val (.int p1), .val (.int (2 : Int32)), .val (.int c0), .unset] [(.int p1)]))
    refine own_st (fun t k => XS.bipush X1.here hx rfl (hb hby d1_13) k) ?_
    show own_Go p e below K (T1.setTop (mkF m 15 #[.val (.int p1), .val (.int (2 : Int32)), .val (.int c0), .unset] [(.int (8 : Int32)), (.int p1)]))
    refine own_st (fun t k => XS.iushr X1.here hx rfl (hb hby d1_15) rfl k) ?_
    show own_Go p e below K (T1.setTop (mkF m 16 #[.val (.int p1), .val (.int (2 : Int32)), .val (.int c0), .unset] [(.int ((p1.toUInt32 >>> ((8 : Int32) &&& 31).toUInt32).toInt32))]))
    refine own_st (fun t k => XS.sipush X1.here hx rfl (hb hby d1_16) k) ?_
    show own_Go p e below K (T1.setTop (mkF m 19 #[.val (.int p1), .val (.int (2 : Int32)), .val (.int c0), .unset] [(.int (255 : Int32)), (.int ((p1.toUInt32 >>> ((8 : Int32) &&& 31).toUInt32).toInt32))]))
    refine own_st (fun t k => XS.iand X1.here hx rfl (hb hby d1_19) rfl k) ?_
    show own_Go p e below K (T1.setTop (mkF m 20 #[.val (.int p1), .val (.int (2 : Int32)), .val (.int c0), .unset] [(.int (((p1.toUInt32 >>> ((8 : Int32) &&& 31).toUInt32).toInt32) &&& (255 : Int32)))]))
    refine own_st (fun t k => XS.i2c X1.here hx rfl (hb hby d1_20) rfl k) ?_
    show own_Go p e below K (T1.setTop (mkF m 21 #[.val (.int p1), .val (.int (2 : Int32)), .val (.int c0), .unset] [(.int ((((p1.toUInt32 >>> ((8 : Int32) &&& 31).toUInt32).toInt32) &&& (255 : Int32)).toUInt32.toUInt16.toUInt32.toInt32))]))
    generalize hc1 : ((((p1.toUInt32 >>> ((8 : Int32) &&& 31).toUInt32).toInt32) &&& (255 : Int32)).toUInt32.toUInt16.toUInt32.toInt32) = c1
    show own_Go p e below K (T1.setTop (mkF m 21 #[.val (.int p1), .val (.int (2 : Int32)), .val (.int c0), .unset] [(.int c1)]))
    have hd1 := own_c hc1
    have hb1 := hd1 ▸ own_b255 ((p1.toUInt32 >>> ((8 : Int32) &&& 31).toUInt32).toInt32)
    refine own_st (fun t k => XS.istoreN X1.here hx rfl (hb hby d1_21) rfl (l' := #[.val (.int p1), .val (.int (2 : Int32)), .val (.int c0), .val (.int c1)]) rfl k) ?_
    show own_Go p e below K (T1.setTop (mkF m 22 #[.val (.int p1), .val (.int (2 : Int32)), .val (.int c0), .val (.int c1)] []))
    refine own_st (fun t k => XS.iloadN X1.here hx rfl (hb hby d1_22) rfl k) ?_
    show own_Go p e below K (T1.setTop (mkF m 23 #[.val (.int p1), .val (.int (2 : Int32)), .val (.int c0), .val (.int c1)] [(.int (2 : Int32))]))
    refine own_st (fun t k => XS.ifYes X1.here hx rfl (pc0 := 23) (pc' := 37) rfl (hb hby d1_23) rfl ((if0 _ _).trans (feq (by decide : ¬ ((2 : Int32) = (0 : Int32)))).2) (by decide) (by decide) k) ?_
    show own_Go p e below K (T1.setTop (mkF m 37 #[.val (.int p1), .val (.int (2 : Int32)), .val (.int c0), .val (.int c1)] []))
    refine own_st (fun t k => XS.iloadN X1.here hx rfl (hb hby d1_37) rfl k) ?_
    show own_Go p e below K (T1.setTop (mkF m 38 #[.val (.int p1), .val (.int (2 : Int32)), .val (.int c0), .val (.int c1)] [(.int (2 : Int32))]))
    refine own_st (fun t k => XS.iconst X1.here hx rfl (hb hby d1_38) k) ?_
    show own_Go p e below K (T1.setTop (mkF m 39 #[.val (.int p1), .val (.int (2 : Int32)), .val (.int c0), .val (.int c1)] [(.int (1 : Int32)), (.int (2 : Int32))]))
    refine own_st (fun t k => XS.icmpYes X1.here hx rfl (pc0 := 39) (pc' := 47) rfl (hb hby d1_39) rfl (feq (by decide : ¬ ((2 : Int32) = (1 : Int32)))).2 (by decide) (by decide) k) ?_
    show own_Go p e below K (T1.setTop (mkF m 47 #[.val (.int p1), .val (.int (2 : Int32)), .val (.int c0), .val (.int c1)] []))
    obtain ⟨T19, h19, X19, e19, E19, A19, D19, -, st19⟩ := newO X1 hx hZ hown (hw _ (List.mem_of_getElem? (i := 14) rfl)) (hw _ (List.mem_of_getElem? (i := 15) rfl)) (hw _ (List.mem_of_getElem? (i := 16) rfl)) e1 (g := (mkF m 47 #[.val (.int p1), .val (.int (2 : Int32)), .val (.int c0), .val (.int c1)] [])) rfl (hb hby d1_47) (by decide) (by decide)
    obtain ⟨b19, g19⟩ : ∃ z, z = h0.size := ⟨_, rfl⟩
    rw [← g19] at A19 D19 st19
    have g_b19 : n0 ≤ b19 := Nat.le_trans Z0 (Nat.le_of_eq g19.symm)
    have sz_b19 : h0.size ≤ b19 := Nat.le_trans (Keep.refl h0 []).1 (Nat.le_of_eq g19.symm)
    have f20 : Old Z n0 h19 := P0.ext E19
    have f21 : own_G 0 h19 := hG0.ext E19
    have f22 : Fld Z h19 b19 "java/lang/String" "value" "[B" .null := D19 (Or.inr (hw _ (List.mem_of_getElem? (i := 30) rfl))) (ty := (.array .byte)) (by decide)
    have f23 : Fld Z h19 b19 "java/lang/String" "coder" "B" (.int (0 : Int32)) := D19 (Or.inr (hw _ (List.mem_of_getElem? (i := 31) rfl))) (ty := .byte) (by decide)
    have Z19 : n0 ≤ h19.size := Nat.le_trans Z0 E19.1
    have K19 : Keep h0 h19 [] := (Keep.refl h0 []).ext E19
    refine own_st st19 ?_
    show own_Go p e below K (T19.setTop (mkF m 50 #[.val (.int p1), .val (.int (2 : Int32)), .val (.int c0), .val (.int c1)] [(.ref b19)]))
    try clear X1 e1 st19 P0 hG0
    refine own_st (fun t k => XS.dup X19.here hx rfl (hb hby d1_50) rfl rfl k) ?_
    show own_Go p e below K (T19.setTop (mkF m 51 #[.val (.int p1), .val (.int (2 : Int32)), .val (.int c0), .val (.int c1)] [(.ref b19), (.ref b19)]))
    refine own_st (fun t k => XS.iconst X19.here hx rfl (hb hby d1_51) k) ?_
    show own_Go p e below K (T19.setTop (mkF m 52 #[.val (.int p1), .val (.int (2 : Int32)), .val (.int c0), .val (.int c1)] [(.int (2 : Int32)), (.ref b19), (.ref b19)]))
    obtain ⟨T24, h24, k24, X24, e24, E24, A24, st24⟩ := newP X19 hx hZ (hw _ (List.mem_of_getElem? (i := 17) rfl)) e19 (g := (mkF m 52 #[.val (.int p1), .val (.int (2 : Int32)), .val (.int c0), .val (.int c1)] [(.int (2 : Int32)), (.ref b19), (.ref b19)])) rfl (hb hby d1_52) rfl (by decide) (cap := 2) (by decide) (by decide) (by decide) (by decide)
    obtain ⟨b24, g24⟩ : ∃ z, z = h19.size := ⟨_, rfl⟩
    rw [← g24] at A24 st24
    have ne_b19_b24 : b19 ≠ b24 := Nat.ne_of_lt (Nat.lt_of_lt_of_le A19.lt (Nat.le_of_eq g24.symm))
    have g_b24 : n0 ≤ b24 := Nat.le_trans Z19 (Nat.le_of_eq g24.symm)
    have sz_b24 : h0.size ≤ b24 := Nat.le_trans K19.1 (Nat.le_of_eq g24.symm)
    have f25 : Old Z n0 h24 := f20.ext E24
    have f26 : own_G 0 h24 := f21.ext E24
    have f27 : Exa Z h24 b19 "java/lang/String" := A19.ext E24
    have f28 : Fld Z h24 b19 "java/lang/String" "value" "[B" .null := f22.ext E24
    have f29 : Fld Z h24 b19 "java/lang/String" "coder" "B" (.int (0 : Int32)) := f23.ext E24
    have V24 : Arv Z h24 b24 k24 .char (2 : Int32) [(.int (0 : Int32)), (.int (0 : Int32))] (.int (0 : Int32)) := (Arv.new A24 (by decide)).pad (pad_rep [] (.int (0 : Int32)) 2)
    have Z24 : n0 ≤ h24.size := Nat.le_trans Z19 E24.1
    have K24 : Keep h0 h24 [] := K19.ext E24
    refine own_st st24 ?_
    show own_Go p e below K (T24.setTop (mkF m 54 #[.val (.int p1), .val (.int (2 : Int32)), .val (.int c0), .val (.int c1)] [(.ref b24), (.ref b19), (.ref b19)]))
    try clear X19 e19 st24 f20 f21 A19 f22 f23
    refine own_st (fun t k => XS.dup X24.here hx rfl (hb hby d1_54) rfl rfl k) ?_
    show own_Go p e below K (T24.setTop (mkF m 55 #[.val (.int p1), .val (.int (2 : Int32)), .val (.int c0), .val (.int c1)] [(.ref b24), (.ref b24), (.ref b19), (.ref b19)]))
    refine own_st (fun t k => XS.iconst X24.here hx rfl (hb hby d1_55) k) ?_
    show own_Go p e below K (T24.setTop (mkF m 56 #[.val (.int p1), .val (.int (2 : Int32)), .val (.int c0), .val (.int c1)] [(.int (0 : Int32)), (.ref b24), (.ref b24), (.ref b19), (.ref b19)]))
    refine own_st (fun t k => XS.iloadN X24.here hx rfl (hb hby d1_56) rfl k) ?_
    show own_Go p e below K (T24.setTop (mkF m 57 #[.val (.int p1), .val (.int (2 : Int32)), .val (.int c0), .val (.int c1)] [(.int c0), (.int (0 : Int32)), (.ref b24), (.ref b24), (.ref b19), (.ref b19)]))
    obtain ⟨cl30, Ar30, qa30, Sa30, Ma30, Ha30, Ga30⟩ := id V24
    have hin30 : ¬ ((0 : Int32) < 0 ∨ cl30.slots.size ≤ ((0 : Int32)).toNatClampNeg) := inb_of Sa30 ⟨by decide, by decide⟩
    obtain ⟨T31, h31, X31, e31, W31, st31⟩ := stC X24 hx hZ e24 Ar30 (j := (0 : Int32)) hin30 (g := (mkF m 57 #[.val (.int p1), .val (.int (2 : Int32)), .val (.int c0), .val (.int c1)] [(.int c0), (.int (0 : Int32)), (.ref b24), (.ref b24), (.ref b19), (.ref b19)])) rfl rfl (hb hby d1_57)
    have id31 : nar .char c0 = c0 := (own_ch hb0)
    rw [id31] at W31
    have V31 : Arv Z h31 b24 k24 .char (2 : Int32) [(.int c0), (.int (0 : Int32))] (.int (0 : Int32)) := Arv.set Ar30 qa30 Sa30 Ma30 Ha30 Ga30 (own_fitc id31) W31 0 rfl (Nat.le_of_ble_eq_true rfl)
    have f32 : Old Z n0 h31 := f25.wr W31 g_b24
    have f33 : own_G 0 h31 := f26.wr W31
    have f34 : Exa Z h31 b19 "java/lang/String" := f27.wr W31
    have f35 : Fld Z h31 b19 "java/lang/String" "value" "[B" .null := f28.other W31 (Or.inl ne_b19_b24)
    have f36 : Fld Z h31 b19 "java/lang/String" "coder" "B" (.int (0 : Int32)) := f29.other W31 (Or.inl ne_b19_b24)
    have N31 := Fr.snoc X31 N1 g_b24
    have Z31 : n0 ≤ h31.size := Nat.le_trans Z24 (Keep.of_wr W31).1
    have K31 : Keep h0 h31 [] := K24.wr W31 (Or.inr sz_b24)
    refine own_st st31 ?_
    show own_Go p e below K (T31.setTop (mkF m 58 #[.val (.int p1), .val (.int (2 : Int32)), .val (.int c0), .val (.int c1)] [(.ref b24), (.ref b19), (.ref b19)]))
    try clear X24 e24 st31 f25 f26 f27 f28 f29
    refine own_st (fun t k => XS.dup X31.here hx rfl (hb hby d1_58) rfl rfl k) ?_
    show own_Go p e below K (T31.setTop (mkF m 59 #[.val (.int p1), .val (.int (2 : Int32)), .val (.int c0), .val (.int c1)] [(.ref b24), (.ref b24), (.ref b19), (.ref b19)]))
    refine own_st (fun t k => XS.iconst X31.here hx rfl (hb hby d1_59) k) ?_
    show own_Go p e below K (T31.setTop (mkF m 60 #[.val (.int p1), .val (.int (2 : Int32)), .val (.int c0), .val (.int c1)] [(.int (1 : Int32)), (.ref b24), (.ref b24), (.ref b19), (.ref b19)]))
    refine own_st (fun t k => XS.iloadN X31.here hx rfl (hb hby d1_60) rfl k) ?_
    show own_Go p e below K (T31.setTop (mkF m 61 #[.val (.int p1), .val (.int (2 : Int32)), .val (.int c0), .val (.int c1)] [(.int c1), (.int (1 : Int32)), (.ref b24), (.ref b24), (.ref b19), (.ref b19)]))
    obtain ⟨cl37, Ar37, qa37, Sa37, Ma37, Ha37, Ga37⟩ := id V31
    have hin37 : ¬ ((1 : Int32) < 0 ∨ cl37.slots.size ≤ ((1 : Int32)).toNatClampNeg) := inb_of Sa37 ⟨by decide, by decide⟩
    obtain ⟨T38, h38, X38, e38, W38, st38⟩ := stC X31 hx hZ e31 Ar37 (j := (1 : Int32)) hin37 (g := (mkF m 61 #[.val (.int p1), .val (.int (2 : Int32)), .val (.int c0), .val (.int c1)] [(.int c1), (.int (1 : Int32)), (.ref b24), (.ref b24), (.ref b19), (.ref b19)])) rfl rfl (hb hby d1_61)
    have id38 : nar .char c1 = c1 := (own_ch hb1)
    rw [id38] at W38
    have V38 : Arv Z h38 b24 k24 .char (2 : Int32) [(.int c0), (.int c1)] (.int (0 : Int32)) := Arv.set Ar37 qa37 Sa37 Ma37 Ha37 Ga37 (own_fitc id38) W38 1 rfl (Nat.le_of_ble_eq_true rfl)
    have f39 : Old Z n0 h38 := f32.wr W38 g_b24
    have f40 : own_G 0 h38 := f33.wr W38
    have f41 : Exa Z h38 b19 "java/lang/String" := f34.wr W38
    have f42 : Fld Z h38 b19 "java/lang/String" "value" "[B" .null := f35.other W38 (Or.inl ne_b19_b24)
    have f43 : Fld Z h38 b19 "java/lang/String" "coder" "B" (.int (0 : Int32)) := f36.other W38 (Or.inl ne_b19_b24)
    have N38 := Fr.snoc X38 N31 g_b24
    have Z38 : n0 ≤ h38.size := Nat.le_trans Z31 (Keep.of_wr W38).1
    have K38 : Keep h0 h38 [] := K31.wr W38 (Or.inr sz_b24)
    refine own_st st38 ?_
    show own_Go p e below K (T38.setTop (mkF m 62 #[.val (.int p1), .val (.int (2 : Int32)), .val (.int c0), .val (.int c1)] [(.ref b24), (.ref b19), (.ref b19)]))
    try clear X31 e31 st38 f32 f33 f34 f35 f36
    obtain ⟨_, _, ⟨T44, L44, k44, n44⟩, -, X44, ⟨Lc44, hQ44, l44, y44, z44⟩, st44⟩ := X38.specialBack hx (y := (⟨"java/lang/String", "<init>", "([C)V"⟩ : MethodName)) rfl hown (mvT hZ (hw _ (List.mem_of_getElem? (i := 18) rfl))) (mvT hZ (hw _ (List.mem_of_getElem? (i := 19) rfl))) (mvT hZ (hw _ (List.mem_of_getElem? (i := 20) rfl))) (by decide) (backOf (W := 1) (rm4c l Z a0 hw [] b19 b24 (cs) (c0) (c1) (k24) h38 n0 Z38 g_b19 ne_b19_b24 f41 f43 f42 V38 f39 (by assumption) (by assumption) (by assumption) (by assumption)) hZ (hw _ (List.mem_of_getElem? (i := 20) rfl)) (hw _ (List.mem_of_getElem? (i := 16) rfl)) (by decide) (by decide)) (g := (mkF m 62 #[.val (.int p1), .val (.int (2 : Int32)), .val (.int c0), .val (.int c1)] [(.ref b24), (.ref b19), (.ref b19)])) rfl (by rw [hml]; rfl) (Steps.refl _) (a := b19) (argsL := [(.ref b24)]) (rest := [(.ref b19)]) (lenOf pd_1_3 rfl) rfl (by show 2 * 0 + _ ≤ _; exact Nat.le_of_eq rfl) (hb hby d1_62) (fun _ _ => ⟨rfl, e38, (by decide : 2 + 1 ≤ _), (by decide : 6 + 2 ≤ _)⟩)
    dsimp only [Pt.U, Pt.locs, Pt.cells, Pt.slots] at X44 l44 y44 z44 st44 hQ44
    obtain ⟨b_44, k_44, rfl, N44q, Kq44, p44_0, p44_1, p44_2, p44_3⟩ := hQ44
    have N44 : Fr n0 L44 := by rw [l44]; exact Fr.app N38 N44q
    clear l44
    have y44' : k44 = 3 := y44
    have z44' : n44 = 8 := z44
    clear y44 z44
    subst y44' z44'
    have f45 : Old Z n0 T44.heap := f39.keep Kq44 (allS (P := fun x => n0 ≤ x) g_b19 all0)
    have f46 : own_G 0 T44.heap := f40.keep Kq44
    have f47 : Arv Z T44.heap b24 k24 .char (2 : Int32) [(.int c0), (.int c1)] (.int (0 : Int32)) := V38.keep Kq44 (ninS (Ne.symm ne_b19_b24) nin0)
    have Z44 : n0 ≤ T44.heap.size := Nat.le_trans Z38 Kq44.1
    have K44 : Keep h0 T44.heap [] := K38.trans Kq44 (allS (P := fun x => x ∈ [] ∨ h0.size ≤ x) (Or.inr sz_b19) all0)
    refine own_tr st44 ?_
    show own_Go p e below K (T44.setTop (mkF m 65 #[.val (.int p1), .val (.int (2 : Int32)), .val (.int c0), .val (.int c1)] [(.ref b19)]))
    try clear X38 e38 st44 N38 N44q f39 f40 V38
    obtain ⟨fs, hr, hrun, hended, hEW⟩ := (show Stand p l e ({ frames := 4, cells := 4, slots := 8, locals := 66 } : Room) (s.setVm s.vm) m #[(.int p1)] below meth c T44 _ 3 8 from X44).leaveW hS0 f46 (v := some (.ref b19)) (fun h => by rw [Bd.returns] at h; cases h)
    refine ⟨_, X44.areturnOut hx rfl Bd.returns rfl (hb hby d1_65) hr, fin _ _ _ hrun hended ?_ ⟨hEW.1, hEW.2.1, hEW.2.2.1, hEW.2.2.2.mono (by decide) (by decide)⟩⟩
    show Q1 Z p1 cs h0 n0 _ T44.heap T44.vm _
    exact ⟨_, b_44, k_44, (2 : Int32), rfl, trivial, sz_b19, N44, K44, p44_0, p44_1, p44_2, (by rw [own_S2 hr1 hd0 hd1]; exact p44_3), (by rw [own_S2 hr1 hd0 hd1]; rfl), (Or.inr (Or.inr rfl)), (own_W.warm (s := s) (show own_W Z s.vm T44.heap from Or.inl hI0) X44.warmed)⟩
  show own_Go p e below K (s₁.setTop (mkF m 0 #[.val (.int p1), .unset, .unset, .unset] []))
  refine own_st (fun t k => XS.iloadN X0.here hx rfl (hb hby d1_0) rfl k) ?_
  show own_Go p e below K (s₁.setTop (mkF m 1 #[.val (.int p1), .unset, .unset, .unset] [(.int p1)]))
  obtain ⟨_, _, ⟨T48, L48, k48, n48⟩, -, X48, ⟨Lc48, hQ48, l48, y48, z48⟩, st48⟩ := Jvm.LawKit.callS X0 hx (y := (⟨"com/example/coverbill/coverbill/book/IdentifierEqualsPinLaw", "len", "(I)I"⟩ : MethodName)) hown (mvT hZ (hw _ (List.mem_of_getElem? (i := 7) rfl))) (mvT hZ (hw _ (List.mem_of_getElem? (i := 8) rfl))) (mvT hZ (hw _ (List.mem_of_getElem? (i := 5) rfl))) (mvT hZ (hw _ (List.mem_of_getElem? (i := 9) rfl))) (by decide) (backOf (W := 0) (rm2 l Z a0 hw [] p1 h0 n0 Z0) hZ (hw _ (List.mem_of_getElem? (i := 9) rfl)) (hw _ (List.mem_of_getElem? (i := 5) rfl)) (by decide) (by decide)) (g := (mkF m 1 #[.val (.int p1), .unset, .unset, .unset] [(.int p1)])) rfl (by rw [hml]; rfl) (argsL := [(.int p1)]) (rest := []) (lenOf pd_1_1 rfl) rfl (by show 2 * 0 + _ ≤ _; exact Nat.le_of_eq rfl) (hb hby d1_1) (fun _ _ => ⟨rfl, e0, (by decide : 0 + 0 ≤ _), (by decide : 0 + 0 ≤ _)⟩)
  dsimp only [Pt.U, Pt.locs, Pt.cells, Pt.slots] at X48 l48 y48 z48 st48 hQ48
  obtain ⟨r48, rfl, hr48, N48q, e48⟩ := hQ48
  have N48 : Fr n0 L48 := by rw [l48]; exact Fr.app N0 N48q
  clear l48
  have y48' : k48 = 0 := y48
  have z48' : n48 = 0 := z48
  clear y48 z48
  subst y48' z48'
  refine own_st st48 ?_
  show own_Go p e below K (T48.setTop (mkF m 4 #[.val (.int p1), .unset, .unset, .unset] [(.int r48)]))
  try clear st48 N48q
  rcases (own_r3 hr48) with hs | hs | hs
  · subst hs
    show own_Go p e below K (T48.setTop (mkF m 4 #[.val (.int p1), .unset, .unset, .unset] [(.int (0 : Int32))]))
    refine own_st (fun t k => XS.istoreN X48.here hx rfl (hb hby d1_4) rfl (l' := #[.val (.int p1), .val (.int (0 : Int32)), .unset, .unset]) rfl k) ?_
    show own_Go p e below K (T48.setTop (mkF m 5 #[.val (.int p1), .val (.int (0 : Int32)), .unset, .unset] []))
    refine own_st (fun t k => XS.iloadN X48.here hx rfl (hb hby d1_5) rfl k) ?_
    show own_Go p e below K (T48.setTop (mkF m 6 #[.val (.int p1), .val (.int (0 : Int32)), .unset, .unset] [(.int p1)]))
    refine own_st (fun t k => XS.sipush X48.here hx rfl (hb hby d1_6) k) ?_
    show own_Go p e below K (T48.setTop (mkF m 9 #[.val (.int p1), .val (.int (0 : Int32)), .unset, .unset] [(.int (255 : Int32)), (.int p1)]))
    refine own_st (fun t k => XS.iand X48.here hx rfl (hb hby d1_9) rfl k) ?_
    show own_Go p e below K (T48.setTop (mkF m 10 #[.val (.int p1), .val (.int (0 : Int32)), .unset, .unset] [(.int (p1 &&& (255 : Int32)))]))
    refine own_st (fun t k => XS.i2c X48.here hx rfl (hb hby d1_10) rfl k) ?_
    show own_Go p e below K (T48.setTop (mkF m 11 #[.val (.int p1), .val (.int (0 : Int32)), .unset, .unset] [(.int ((p1 &&& (255 : Int32)).toUInt32.toUInt16.toUInt32.toInt32))]))
    generalize hc0 : ((p1 &&& (255 : Int32)).toUInt32.toUInt16.toUInt32.toInt32) = c0
    show own_Go p e below K (T48.setTop (mkF m 11 #[.val (.int p1), .val (.int (0 : Int32)), .unset, .unset] [(.int c0)]))
    have hd0 := own_c hc0
    have hb0 := hd0 ▸ own_b255 p1
    refine own_st (fun t k => XS.istoreN X48.here hx rfl (hb hby d1_11) rfl (l' := #[.val (.int p1), .val (.int (0 : Int32)), .val (.int c0), .unset]) rfl k) ?_
    show own_Go p e below K (T48.setTop (mkF m 12 #[.val (.int p1), .val (.int (0 : Int32)), .val (.int c0), .unset] []))
    refine own_st (fun t k => XS.iloadN X48.here hx rfl (hb hby d1_12) rfl k) ?_
    show own_Go p e below K (T48.setTop (mkF m 13 #[.val (.int p1), .val (.int (0 : Int32)), .val (.int c0), .unset] [(.int p1)]))
    refine own_st (fun t k => XS.bipush X48.here hx rfl (hb hby d1_13) k) ?_
    show own_Go p e below K (T48.setTop (mkF m 15 #[.val (.int p1), .val (.int (0 : Int32)), .val (.int c0), .unset] [(.int (8 : Int32)), (.int p1)]))
    refine own_st (fun t k => XS.iushr X48.here hx rfl (hb hby d1_15) rfl k) ?_
    show own_Go p e below K (T48.setTop (mkF m 16 #[.val (.int p1), .val (.int (0 : Int32)), .val (.int c0), .unset] [(.int ((p1.toUInt32 >>> ((8 : Int32) &&& 31).toUInt32).toInt32))]))
    refine own_st (fun t k => XS.sipush X48.here hx rfl (hb hby d1_16) k) ?_
    show own_Go p e below K (T48.setTop (mkF m 19 #[.val (.int p1), .val (.int (0 : Int32)), .val (.int c0), .unset] [(.int (255 : Int32)), (.int ((p1.toUInt32 >>> ((8 : Int32) &&& 31).toUInt32).toInt32))]))
    refine own_st (fun t k => XS.iand X48.here hx rfl (hb hby d1_19) rfl k) ?_
    show own_Go p e below K (T48.setTop (mkF m 20 #[.val (.int p1), .val (.int (0 : Int32)), .val (.int c0), .unset] [(.int (((p1.toUInt32 >>> ((8 : Int32) &&& 31).toUInt32).toInt32) &&& (255 : Int32)))]))
    refine own_st (fun t k => XS.i2c X48.here hx rfl (hb hby d1_20) rfl k) ?_
    show own_Go p e below K (T48.setTop (mkF m 21 #[.val (.int p1), .val (.int (0 : Int32)), .val (.int c0), .unset] [(.int ((((p1.toUInt32 >>> ((8 : Int32) &&& 31).toUInt32).toInt32) &&& (255 : Int32)).toUInt32.toUInt16.toUInt32.toInt32))]))
    generalize hc1 : ((((p1.toUInt32 >>> ((8 : Int32) &&& 31).toUInt32).toInt32) &&& (255 : Int32)).toUInt32.toUInt16.toUInt32.toInt32) = c1
    show own_Go p e below K (T48.setTop (mkF m 21 #[.val (.int p1), .val (.int (0 : Int32)), .val (.int c0), .unset] [(.int c1)]))
    have hd1 := own_c hc1
    have hb1 := hd1 ▸ own_b255 ((p1.toUInt32 >>> ((8 : Int32) &&& 31).toUInt32).toInt32)
    refine own_st (fun t k => XS.istoreN X48.here hx rfl (hb hby d1_21) rfl (l' := #[.val (.int p1), .val (.int (0 : Int32)), .val (.int c0), .val (.int c1)]) rfl k) ?_
    show own_Go p e below K (T48.setTop (mkF m 22 #[.val (.int p1), .val (.int (0 : Int32)), .val (.int c0), .val (.int c1)] []))
    refine own_st (fun t k => XS.iloadN X48.here hx rfl (hb hby d1_22) rfl k) ?_
    show own_Go p e below K (T48.setTop (mkF m 23 #[.val (.int p1), .val (.int (0 : Int32)), .val (.int c0), .val (.int c1)] [(.int (0 : Int32))]))
    refine own_st (fun t k => XS.ifNo X48.here hx rfl (hb hby d1_23) rfl ((if0 _ _).trans (teq (by decide : (0 : Int32) = (0 : Int32))).2) k) ?_
    show own_Go p e below K (T48.setTop (mkF m 26 #[.val (.int p1), .val (.int (0 : Int32)), .val (.int c0), .val (.int c1)] []))
    obtain ⟨T49, h49, X49, e49, E49, A49, D49, -, st49⟩ := newO X48 hx hZ hown (hw _ (List.mem_of_getElem? (i := 14) rfl)) (hw _ (List.mem_of_getElem? (i := 15) rfl)) (hw _ (List.mem_of_getElem? (i := 16) rfl)) e48 (g := (mkF m 26 #[.val (.int p1), .val (.int (0 : Int32)), .val (.int c0), .val (.int c1)] [])) rfl (hb hby d1_26) (by decide) (by decide)
    obtain ⟨b49, g49⟩ : ∃ z, z = h0.size := ⟨_, rfl⟩
    rw [← g49] at A49 D49 st49
    have ne_la_b49 : la ≠ b49 := Nat.ne_of_lt (Nat.lt_of_lt_of_le xE.lt (Nat.le_of_eq g49.symm))
    have ne_lb_b49 : lb ≠ b49 := Nat.ne_of_lt (Nat.lt_of_lt_of_le xA.lt (Nat.le_of_eq g49.symm))
    have g_b49 : n0 ≤ b49 := Nat.le_trans Z0 (Nat.le_of_eq g49.symm)
    have sz_b49 : h0.size ≤ b49 := Nat.le_trans (Keep.refl h0 []).1 (Nat.le_of_eq g49.symm)
    have f50 : Old Z n0 h49 := P0.ext E49
    have f51 : own_G 0 h49 := hG0.ext E49
    have f52 : Exa Z h49 la "java/lang/String" := xE.ext E49
    have f53 : Fld Z h49 la "java/lang/String" "coder" "B" (.int (0 : Int32)) := xC.ext E49
    have f54 : Fld Z h49 la "java/lang/String" "value" "[B" (.ref lb) := xV.ext E49
    have f55 : Arv Z h49 lb lk .byte (0 : Int32) [] (.int (0 : Int32)) := xA.ext E49
    have f56 : Fld Z h49 b49 "java/lang/String" "value" "[B" .null := D49 (Or.inr (hw _ (List.mem_of_getElem? (i := 30) rfl))) (ty := (.array .byte)) (by decide)
    have f57 : Fld Z h49 b49 "java/lang/String" "coder" "B" (.int (0 : Int32)) := D49 (Or.inr (hw _ (List.mem_of_getElem? (i := 31) rfl))) (ty := .byte) (by decide)
    have Z49 : n0 ≤ h49.size := Nat.le_trans Z0 E49.1
    have K49 : Keep h0 h49 [] := (Keep.refl h0 []).ext E49
    refine own_st st49 ?_
    show own_Go p e below K (T49.setTop (mkF m 29 #[.val (.int p1), .val (.int (0 : Int32)), .val (.int c0), .val (.int c1)] [(.ref b49)]))
    try clear X48 e48 st49 P0 hG0 xE xC xV xA
    refine own_st (fun t k => XS.dup X49.here hx rfl (hb hby d1_29) rfl rfl k) ?_
    show own_Go p e below K (T49.setTop (mkF m 30 #[.val (.int p1), .val (.int (0 : Int32)), .val (.int c0), .val (.int c1)] [(.ref b49), (.ref b49)]))
    refine own_st (fun t k => XS.iconst X49.here hx rfl (hb hby d1_30) k) ?_
    show own_Go p e below K (T49.setTop (mkF m 31 #[.val (.int p1), .val (.int (0 : Int32)), .val (.int c0), .val (.int c1)] [(.int (0 : Int32)), (.ref b49), (.ref b49)]))
    obtain ⟨T58, h58, k58, X58, e58, E58, A58, st58⟩ := newP X49 hx hZ (hw _ (List.mem_of_getElem? (i := 17) rfl)) e49 (g := (mkF m 31 #[.val (.int p1), .val (.int (0 : Int32)), .val (.int c0), .val (.int c1)] [(.int (0 : Int32)), (.ref b49), (.ref b49)])) rfl (hb hby d1_31) rfl (by decide) (cap := 0) (by decide) (by decide) (by decide) (by decide)
    obtain ⟨b58, g58⟩ : ∃ z, z = h49.size := ⟨_, rfl⟩
    rw [← g58] at A58 st58
    have ne_b49_b58 : b49 ≠ b58 := Nat.ne_of_lt (Nat.lt_of_lt_of_le A49.lt (Nat.le_of_eq g58.symm))
    have ne_la_b58 : la ≠ b58 := Nat.ne_of_lt (Nat.lt_of_lt_of_le f52.lt (Nat.le_of_eq g58.symm))
    have ne_lb_b58 : lb ≠ b58 := Nat.ne_of_lt (Nat.lt_of_lt_of_le f55.lt (Nat.le_of_eq g58.symm))
    have g_b58 : n0 ≤ b58 := Nat.le_trans Z49 (Nat.le_of_eq g58.symm)
    have sz_b58 : h0.size ≤ b58 := Nat.le_trans K49.1 (Nat.le_of_eq g58.symm)
    have f59 : Old Z n0 h58 := f50.ext E58
    have f60 : own_G 0 h58 := f51.ext E58
    have f61 : Exa Z h58 la "java/lang/String" := f52.ext E58
    have f62 : Fld Z h58 la "java/lang/String" "coder" "B" (.int (0 : Int32)) := f53.ext E58
    have f63 : Fld Z h58 la "java/lang/String" "value" "[B" (.ref lb) := f54.ext E58
    have f64 : Arv Z h58 lb lk .byte (0 : Int32) [] (.int (0 : Int32)) := f55.ext E58
    have f65 : Exa Z h58 b49 "java/lang/String" := A49.ext E58
    have f66 : Fld Z h58 b49 "java/lang/String" "value" "[B" .null := f56.ext E58
    have f67 : Fld Z h58 b49 "java/lang/String" "coder" "B" (.int (0 : Int32)) := f57.ext E58
    have V58 : Arv Z h58 b58 k58 .char (0 : Int32) [] (.int (0 : Int32)) := (Arv.new A58 (by decide)).pad (pad_rep [] (.int (0 : Int32)) 0)
    have Z58 : n0 ≤ h58.size := Nat.le_trans Z49 E58.1
    have K58 : Keep h0 h58 [] := K49.ext E58
    refine own_st st58 ?_
    show own_Go p e below K (T58.setTop (mkF m 33 #[.val (.int p1), .val (.int (0 : Int32)), .val (.int c0), .val (.int c1)] [(.ref b58), (.ref b49), (.ref b49)]))
    try clear X49 e49 st58 f50 f51 f52 f53 f54 f55 A49 f56 f57
    obtain ⟨_, _, ⟨T68, L68, k68, n68⟩, -, X68b, hSq68, hgr68, ⟨Lc68, hQ68, l68, y68, z68⟩, st68⟩ := X58.specialBackS hx (y := (⟨"java/lang/String", "<init>", "([C)V"⟩ : MethodName)) rfl hown (mvT hZ (hw _ (List.mem_of_getElem? (i := 18) rfl))) (mvT hZ (hw _ (List.mem_of_getElem? (i := 19) rfl))) (mvT hZ (hw _ (List.mem_of_getElem? (i := 20) rfl))) (by decide) (own_backS (W := 1) (V := fun vm => own_W Z vm h58) (rm4w l Z a0 hw [] b49 b58 (k58) h58 n0 Z58 g_b49 ne_b49_b58 f65 f67 f66 V58 f59 (by assumption) (by assumption)) hZ (fun vm' w => own_W.warm (s := s) (show own_W Z s.vm h58 from Or.inr ⟨la, lb, lk, hL0, f61, f62, f63, f64⟩) w) (hw _ (List.mem_of_getElem? (i := 20) rfl)) (hw _ (List.mem_of_getElem? (i := 16) rfl)) (by decide) (by decide)) (g := (mkF m 33 #[.val (.int p1), .val (.int (0 : Int32)), .val (.int c0), .val (.int c1)] [(.ref b58), (.ref b49), (.ref b49)])) rfl (by rw [hml]; rfl) (Steps.refl _) (a := b49) (argsL := [(.ref b58)]) (rest := [(.ref b49)]) (lenOf pd_1_3 rfl) rfl (by show 2 * 0 + _ ≤ _; exact Nat.le_of_eq rfl) (hb hby d1_33) (fun _ _ => ⟨rfl, e58, (by decide : 2 + 2 ≤ _), (by decide : 4 + 4 ≤ _)⟩)
    dsimp only [Pt.U, Pt.locs, Pt.cells, Pt.slots] at X68b l68 y68 z68 st68 hQ68 hSq68 hgr68
    have X68 : Stand p l e ({ frames := 4, cells := 4, slots := 8, locals := 66 } : Room) (s.setVm T68.vm) m #[(.int p1)] below meth c T68 L68 k68 n68 := X68b
    clear X68b
    have hS68 : s.Since T68.vm T68.heap.size := hS0.trans (n₂ := T68.heap.size) hSq68 (Nat.le_trans (Nat.le_trans f60 (Nat.le_of_eq (congrArg Array.size (e58)).symm)) hgr68)
    have hZ : Z.Warmed39 (s.setVm T68.vm).vm := State.Warmed39.trans (t := s) hZ hSq68.1
    have hown : (s.setVm T68.vm).vm.findClass "com/example/coverbill/coverbill/book/IdentifierEqualsPinLaw" = some m.cls := by rw [show (s.setVm T68.vm).vm = T68.vm from rfl, hSq68.1.alike.findClass]; exact hown
    obtain ⟨b_68, k_68, rfl, N68q, Kq68, p68_0, p68_1, p68_2, p68_3, pW68⟩ := hQ68
    have N68 : Fr n0 L68 := by rw [l68]; exact Fr.app N48 N68q
    clear l68
    have y68' : k68 = 4 := y68
    have z68' : n68 = 8 := z68
    clear y68 z68
    subst y68' z68'
    have f69 : Old Z n0 T68.heap := f59.keep Kq68 (allS (P := fun x => n0 ≤ x) g_b49 all0)
    have f70 : Exa Z T68.heap la "java/lang/String" := f61.keep Kq68
    have f71 : Fld Z T68.heap la "java/lang/String" "coder" "B" (.int (0 : Int32)) := f62.keep Kq68 (ninS ne_la_b49 nin0)
    have f72 : Fld Z T68.heap la "java/lang/String" "value" "[B" (.ref lb) := f63.keep Kq68 (ninS ne_la_b49 nin0)
    have f73 : Arv Z T68.heap lb lk .byte (0 : Int32) [] (.int (0 : Int32)) := f64.keep Kq68 (ninS ne_lb_b49 nin0)
    have f74 : Arv Z T68.heap b58 k58 .char (0 : Int32) [] (.int (0 : Int32)) := V58.keep Kq68 (ninS (Ne.symm ne_b49_b58) nin0)
    have hG68 : own_G T68.heap.size T68.heap := Nat.le_refl _
    have Z68 : n0 ≤ T68.heap.size := Nat.le_trans Z58 Kq68.1
    have K68 : Keep h0 T68.heap [] := K58.trans Kq68 (allS (P := fun x => x ∈ [] ∨ h0.size ≤ x) (Or.inr sz_b49) all0)
    refine own_tr st68 ?_
    show own_Go p e below K (T68.setTop (mkF m 36 #[.val (.int p1), .val (.int (0 : Int32)), .val (.int c0), .val (.int c1)] [(.ref b49)]))
    try clear X58 e58 st68 N48 N68q f59 f61 f62 f63 f64 V58
    obtain ⟨fs, hr, hrun, hended, hEW⟩ := X68.leaveW hS68 hG68 (v := some (.ref b49)) (fun h => by rw [Bd.returns] at h; cases h)
    refine ⟨_, X68.areturnOut hx rfl Bd.returns rfl (hb hby d1_36) hr, fin _ _ _ hrun hended ?_ ⟨hEW.1, hEW.2.1, hEW.2.2.1, hEW.2.2.2.mono (by decide) (by decide)⟩⟩
    show Q1 Z p1 cs h0 n0 _ T68.heap T68.vm _
    exact ⟨_, b_68, k_68, (0 : Int32), rfl, trivial, sz_b49, N68, K68, p68_0, p68_1, p68_2, (by rw [own_S0 hr48]; exact p68_3), (by rw [own_S0 hr48]; rfl), (Or.inl rfl), (own_W.warm (s := (s.setVm T68.vm)) pW68 X68.warmed)⟩
  · subst hs
    show own_Go p e below K (T48.setTop (mkF m 4 #[.val (.int p1), .unset, .unset, .unset] [(.int (1 : Int32))]))
    refine own_st (fun t k => XS.istoreN X48.here hx rfl (hb hby d1_4) rfl (l' := #[.val (.int p1), .val (.int (1 : Int32)), .unset, .unset]) rfl k) ?_
    show own_Go p e below K (T48.setTop (mkF m 5 #[.val (.int p1), .val (.int (1 : Int32)), .unset, .unset] []))
    refine own_st (fun t k => XS.iloadN X48.here hx rfl (hb hby d1_5) rfl k) ?_
    show own_Go p e below K (T48.setTop (mkF m 6 #[.val (.int p1), .val (.int (1 : Int32)), .unset, .unset] [(.int p1)]))
    refine own_st (fun t k => XS.sipush X48.here hx rfl (hb hby d1_6) k) ?_
    show own_Go p e below K (T48.setTop (mkF m 9 #[.val (.int p1), .val (.int (1 : Int32)), .unset, .unset] [(.int (255 : Int32)), (.int p1)]))
    refine own_st (fun t k => XS.iand X48.here hx rfl (hb hby d1_9) rfl k) ?_
    show own_Go p e below K (T48.setTop (mkF m 10 #[.val (.int p1), .val (.int (1 : Int32)), .unset, .unset] [(.int (p1 &&& (255 : Int32)))]))
    refine own_st (fun t k => XS.i2c X48.here hx rfl (hb hby d1_10) rfl k) ?_
    show own_Go p e below K (T48.setTop (mkF m 11 #[.val (.int p1), .val (.int (1 : Int32)), .unset, .unset] [(.int ((p1 &&& (255 : Int32)).toUInt32.toUInt16.toUInt32.toInt32))]))
    generalize hc0 : ((p1 &&& (255 : Int32)).toUInt32.toUInt16.toUInt32.toInt32) = c0
    show own_Go p e below K (T48.setTop (mkF m 11 #[.val (.int p1), .val (.int (1 : Int32)), .unset, .unset] [(.int c0)]))
    have hd0 := own_c hc0
    have hb0 := hd0 ▸ own_b255 p1
    refine own_st (fun t k => XS.istoreN X48.here hx rfl (hb hby d1_11) rfl (l' := #[.val (.int p1), .val (.int (1 : Int32)), .val (.int c0), .unset]) rfl k) ?_
    show own_Go p e below K (T48.setTop (mkF m 12 #[.val (.int p1), .val (.int (1 : Int32)), .val (.int c0), .unset] []))
    refine own_st (fun t k => XS.iloadN X48.here hx rfl (hb hby d1_12) rfl k) ?_
    show own_Go p e below K (T48.setTop (mkF m 13 #[.val (.int p1), .val (.int (1 : Int32)), .val (.int c0), .unset] [(.int p1)]))
    refine own_st (fun t k => XS.bipush X48.here hx rfl (hb hby d1_13) k) ?_
    show own_Go p e below K (T48.setTop (mkF m 15 #[.val (.int p1), .val (.int (1 : Int32)), .val (.int c0), .unset] [(.int (8 : Int32)), (.int p1)]))
    refine own_st (fun t k => XS.iushr X48.here hx rfl (hb hby d1_15) rfl k) ?_
    show own_Go p e below K (T48.setTop (mkF m 16 #[.val (.int p1), .val (.int (1 : Int32)), .val (.int c0), .unset] [(.int ((p1.toUInt32 >>> ((8 : Int32) &&& 31).toUInt32).toInt32))]))
    refine own_st (fun t k => XS.sipush X48.here hx rfl (hb hby d1_16) k) ?_
    show own_Go p e below K (T48.setTop (mkF m 19 #[.val (.int p1), .val (.int (1 : Int32)), .val (.int c0), .unset] [(.int (255 : Int32)), (.int ((p1.toUInt32 >>> ((8 : Int32) &&& 31).toUInt32).toInt32))]))
    refine own_st (fun t k => XS.iand X48.here hx rfl (hb hby d1_19) rfl k) ?_
    show own_Go p e below K (T48.setTop (mkF m 20 #[.val (.int p1), .val (.int (1 : Int32)), .val (.int c0), .unset] [(.int (((p1.toUInt32 >>> ((8 : Int32) &&& 31).toUInt32).toInt32) &&& (255 : Int32)))]))
    refine own_st (fun t k => XS.i2c X48.here hx rfl (hb hby d1_20) rfl k) ?_
    show own_Go p e below K (T48.setTop (mkF m 21 #[.val (.int p1), .val (.int (1 : Int32)), .val (.int c0), .unset] [(.int ((((p1.toUInt32 >>> ((8 : Int32) &&& 31).toUInt32).toInt32) &&& (255 : Int32)).toUInt32.toUInt16.toUInt32.toInt32))]))
    generalize hc1 : ((((p1.toUInt32 >>> ((8 : Int32) &&& 31).toUInt32).toInt32) &&& (255 : Int32)).toUInt32.toUInt16.toUInt32.toInt32) = c1
    show own_Go p e below K (T48.setTop (mkF m 21 #[.val (.int p1), .val (.int (1 : Int32)), .val (.int c0), .unset] [(.int c1)]))
    have hd1 := own_c hc1
    have hb1 := hd1 ▸ own_b255 ((p1.toUInt32 >>> ((8 : Int32) &&& 31).toUInt32).toInt32)
    refine own_st (fun t k => XS.istoreN X48.here hx rfl (hb hby d1_21) rfl (l' := #[.val (.int p1), .val (.int (1 : Int32)), .val (.int c0), .val (.int c1)]) rfl k) ?_
    show own_Go p e below K (T48.setTop (mkF m 22 #[.val (.int p1), .val (.int (1 : Int32)), .val (.int c0), .val (.int c1)] []))
    refine own_st (fun t k => XS.iloadN X48.here hx rfl (hb hby d1_22) rfl k) ?_
    show own_Go p e below K (T48.setTop (mkF m 23 #[.val (.int p1), .val (.int (1 : Int32)), .val (.int c0), .val (.int c1)] [(.int (1 : Int32))]))
    refine own_st (fun t k => XS.ifYes X48.here hx rfl (pc0 := 23) (pc' := 37) rfl (hb hby d1_23) rfl ((if0 _ _).trans (feq (by decide : ¬ ((1 : Int32) = (0 : Int32)))).2) (by decide) (by decide) k) ?_
    show own_Go p e below K (T48.setTop (mkF m 37 #[.val (.int p1), .val (.int (1 : Int32)), .val (.int c0), .val (.int c1)] []))
    refine own_st (fun t k => XS.iloadN X48.here hx rfl (hb hby d1_37) rfl k) ?_
    show own_Go p e below K (T48.setTop (mkF m 38 #[.val (.int p1), .val (.int (1 : Int32)), .val (.int c0), .val (.int c1)] [(.int (1 : Int32))]))
    refine own_st (fun t k => XS.iconst X48.here hx rfl (hb hby d1_38) k) ?_
    show own_Go p e below K (T48.setTop (mkF m 39 #[.val (.int p1), .val (.int (1 : Int32)), .val (.int c0), .val (.int c1)] [(.int (1 : Int32)), (.int (1 : Int32))]))
    refine own_st (fun t k => XS.icmpNo X48.here hx rfl (hb hby d1_39) rfl (teq (by decide : (1 : Int32) = (1 : Int32))).2 k) ?_
    show own_Go p e below K (T48.setTop (mkF m 42 #[.val (.int p1), .val (.int (1 : Int32)), .val (.int c0), .val (.int c1)] []))
    refine own_st (fun t k => XS.iloadN X48.here hx rfl (hb hby d1_42) rfl k) ?_
    show own_Go p e below K (T48.setTop (mkF m 43 #[.val (.int p1), .val (.int (1 : Int32)), .val (.int c0), .val (.int c1)] [(.int c0)]))
    obtain ⟨_, _, ⟨T75, L75, k75, n75⟩, -, X75, ⟨Lc75, hQ75, l75, y75, z75⟩, st75⟩ := Jvm.LawKit.callS X48 hx (y := (⟨"java/lang/String", "valueOf", "(C)Ljava/lang/String;"⟩ : MethodName)) hown (mvT hZ (hw _ (List.mem_of_getElem? (i := 77) rfl))) (mvT hZ (hw _ (List.mem_of_getElem? (i := 78) rfl))) (mvT hZ (hw _ (List.mem_of_getElem? (i := 16) rfl))) (mvT hZ (hw _ (List.mem_of_getElem? (i := 79) rfl))) (by decide) (backOf (W := 0) (rm15 l Z a0 hw [] c0 (cs) h0 n0 Z0 P0 (by assumption) (by assumption) (by assumption)) hZ (hw _ (List.mem_of_getElem? (i := 79) rfl)) (hw _ (List.mem_of_getElem? (i := 16) rfl)) (by decide) (by decide)) (g := (mkF m 43 #[.val (.int p1), .val (.int (1 : Int32)), .val (.int c0), .val (.int c1)] [(.int c0)])) rfl (by rw [hml]; rfl) (argsL := [(.int c0)]) (rest := []) (lenOf pd_1_13 rfl) rfl (by show 2 * 0 + _ ≤ _; exact Nat.le_of_eq rfl) (hb hby d1_43) (fun _ _ => ⟨rfl, e48, (by decide : 0 + 2 ≤ _), (by decide : 0 + 5 ≤ _)⟩)
    dsimp only [Pt.U, Pt.locs, Pt.cells, Pt.slots] at X75 l75 y75 z75 st75 hQ75
    obtain ⟨r75, b_75, k_75, rfl, hr75, fr75, N75q, Kq75, p75_0, p75_1, p75_2, p75_3⟩ := hQ75
    have N75 : Fr n0 L75 := by rw [l75]; exact Fr.app N48 N75q
    clear l75
    have y75' : k75 = 2 := y75
    have z75' : n75 = 5 := z75
    clear y75 z75
    subst y75' z75'
    have ne_la_r75 : la ≠ r75 := Nat.ne_of_lt (Nat.lt_of_lt_of_le xE.lt fr75)
    have ne_lb_r75 : lb ≠ r75 := Nat.ne_of_lt (Nat.lt_of_lt_of_le xA.lt fr75)
    have g_r75 : n0 ≤ r75 := Nat.le_trans Z0 fr75
    have sz_r75 : h0.size ≤ r75 := Nat.le_trans (Keep.refl h0 []).1 fr75
    have f76 : Old Z n0 T75.heap := P0.keep Kq75 all0
    have f77 : own_G 0 T75.heap := hG0.keep Kq75
    have f78 : Exa Z T75.heap la "java/lang/String" := xE.keep Kq75
    have f79 : Fld Z T75.heap la "java/lang/String" "coder" "B" (.int (0 : Int32)) := xC.keep Kq75 nin0
    have f80 : Fld Z T75.heap la "java/lang/String" "value" "[B" (.ref lb) := xV.keep Kq75 nin0
    have f81 : Arv Z T75.heap lb lk .byte (0 : Int32) [] (.int (0 : Int32)) := xA.keep Kq75 nin0
    have Z75 : n0 ≤ T75.heap.size := Nat.le_trans Z0 Kq75.1
    have K75 : Keep h0 T75.heap [] := (Keep.refl h0 []).trans Kq75 all0
    refine own_st st75 ?_
    show own_Go p e below K (T75.setTop (mkF m 46 #[.val (.int p1), .val (.int (1 : Int32)), .val (.int c0), .val (.int c1)] [(.ref r75)]))
    try clear X48 e48 st75 N48 N75q P0 hG0 xE xC xV xA
    obtain ⟨fs, hr, hrun, hended, hEW⟩ := (show Stand p l e ({ frames := 4, cells := 4, slots := 8, locals := 66 } : Room) (s.setVm s.vm) m #[(.int p1)] below meth c T75 _ 2 5 from X75).leaveW hS0 f77 (v := some (.ref r75)) (fun h => by rw [Bd.returns] at h; cases h)
    refine ⟨_, X75.areturnOut hx rfl Bd.returns rfl (hb hby d1_46) hr, fin _ _ _ hrun hended ?_ ⟨hEW.1, hEW.2.1, hEW.2.2.1, hEW.2.2.2.mono (by decide) (by decide)⟩⟩
    show Q1 Z p1 cs h0 n0 _ T75.heap T75.vm _
    exact ⟨_, b_75, k_75, (1 : Int32), rfl, trivial, sz_r75, N75, K75, p75_0, p75_1, p75_2, (by rw [own_S1 hr48 hd0]; exact p75_3), (by rw [own_S1 hr48 hd0]; rfl), (Or.inr (Or.inl rfl)), (own_W.warm (s := s) (show own_W Z s.vm T75.heap from Or.inr ⟨la, lb, lk, hL0, f78, f79, f80, f81⟩) X75.warmed)⟩
  subst hs
  show own_Go p e below K (T48.setTop (mkF m 4 #[.val (.int p1), .unset, .unset, .unset] [(.int (2 : Int32))]))
  refine own_st (fun t k => XS.istoreN X48.here hx rfl (hb hby d1_4) rfl (l' := #[.val (.int p1), .val (.int (2 : Int32)), .unset, .unset]) rfl k) ?_
  show own_Go p e below K (T48.setTop (mkF m 5 #[.val (.int p1), .val (.int (2 : Int32)), .unset, .unset] []))
  refine own_st (fun t k => XS.iloadN X48.here hx rfl (hb hby d1_5) rfl k) ?_
  show own_Go p e below K (T48.setTop (mkF m 6 #[.val (.int p1), .val (.int (2 : Int32)), .unset, .unset] [(.int p1)]))
  refine own_st (fun t k => XS.sipush X48.here hx rfl (hb hby d1_6) k) ?_
  show own_Go p e below K (T48.setTop (mkF m 9 #[.val (.int p1), .val (.int (2 : Int32)), .unset, .unset] [(.int (255 : Int32)), (.int p1)]))
  refine own_st (fun t k => XS.iand X48.here hx rfl (hb hby d1_9) rfl k) ?_
  show own_Go p e below K (T48.setTop (mkF m 10 #[.val (.int p1), .val (.int (2 : Int32)), .unset, .unset] [(.int (p1 &&& (255 : Int32)))]))
  refine own_st (fun t k => XS.i2c X48.here hx rfl (hb hby d1_10) rfl k) ?_
  show own_Go p e below K (T48.setTop (mkF m 11 #[.val (.int p1), .val (.int (2 : Int32)), .unset, .unset] [(.int ((p1 &&& (255 : Int32)).toUInt32.toUInt16.toUInt32.toInt32))]))
  generalize hc0 : ((p1 &&& (255 : Int32)).toUInt32.toUInt16.toUInt32.toInt32) = c0
  show own_Go p e below K (T48.setTop (mkF m 11 #[.val (.int p1), .val (.int (2 : Int32)), .unset, .unset] [(.int c0)]))
  have hd0 := own_c hc0
  have hb0 := hd0 ▸ own_b255 p1
  refine own_st (fun t k => XS.istoreN X48.here hx rfl (hb hby d1_11) rfl (l' := #[.val (.int p1), .val (.int (2 : Int32)), .val (.int c0), .unset]) rfl k) ?_
  show own_Go p e below K (T48.setTop (mkF m 12 #[.val (.int p1), .val (.int (2 : Int32)), .val (.int c0), .unset] []))
  refine own_st (fun t k => XS.iloadN X48.here hx rfl (hb hby d1_12) rfl k) ?_
  show own_Go p e below K (T48.setTop (mkF m 13 #[.val (.int p1), .val (.int (2 : Int32)), .val (.int c0), .unset] [(.int p1)]))
  refine own_st (fun t k => XS.bipush X48.here hx rfl (hb hby d1_13) k) ?_
  show own_Go p e below K (T48.setTop (mkF m 15 #[.val (.int p1), .val (.int (2 : Int32)), .val (.int c0), .unset] [(.int (8 : Int32)), (.int p1)]))
  refine own_st (fun t k => XS.iushr X48.here hx rfl (hb hby d1_15) rfl k) ?_
  show own_Go p e below K (T48.setTop (mkF m 16 #[.val (.int p1), .val (.int (2 : Int32)), .val (.int c0), .unset] [(.int ((p1.toUInt32 >>> ((8 : Int32) &&& 31).toUInt32).toInt32))]))
  refine own_st (fun t k => XS.sipush X48.here hx rfl (hb hby d1_16) k) ?_
  show own_Go p e below K (T48.setTop (mkF m 19 #[.val (.int p1), .val (.int (2 : Int32)), .val (.int c0), .unset] [(.int (255 : Int32)), (.int ((p1.toUInt32 >>> ((8 : Int32) &&& 31).toUInt32).toInt32))]))
  refine own_st (fun t k => XS.iand X48.here hx rfl (hb hby d1_19) rfl k) ?_
  show own_Go p e below K (T48.setTop (mkF m 20 #[.val (.int p1), .val (.int (2 : Int32)), .val (.int c0), .unset] [(.int (((p1.toUInt32 >>> ((8 : Int32) &&& 31).toUInt32).toInt32) &&& (255 : Int32)))]))
  refine own_st (fun t k => XS.i2c X48.here hx rfl (hb hby d1_20) rfl k) ?_
  show own_Go p e below K (T48.setTop (mkF m 21 #[.val (.int p1), .val (.int (2 : Int32)), .val (.int c0), .unset] [(.int ((((p1.toUInt32 >>> ((8 : Int32) &&& 31).toUInt32).toInt32) &&& (255 : Int32)).toUInt32.toUInt16.toUInt32.toInt32))]))
  generalize hc1 : ((((p1.toUInt32 >>> ((8 : Int32) &&& 31).toUInt32).toInt32) &&& (255 : Int32)).toUInt32.toUInt16.toUInt32.toInt32) = c1
  show own_Go p e below K (T48.setTop (mkF m 21 #[.val (.int p1), .val (.int (2 : Int32)), .val (.int c0), .unset] [(.int c1)]))
  have hd1 := own_c hc1
  have hb1 := hd1 ▸ own_b255 ((p1.toUInt32 >>> ((8 : Int32) &&& 31).toUInt32).toInt32)
  refine own_st (fun t k => XS.istoreN X48.here hx rfl (hb hby d1_21) rfl (l' := #[.val (.int p1), .val (.int (2 : Int32)), .val (.int c0), .val (.int c1)]) rfl k) ?_
  show own_Go p e below K (T48.setTop (mkF m 22 #[.val (.int p1), .val (.int (2 : Int32)), .val (.int c0), .val (.int c1)] []))
  refine own_st (fun t k => XS.iloadN X48.here hx rfl (hb hby d1_22) rfl k) ?_
  show own_Go p e below K (T48.setTop (mkF m 23 #[.val (.int p1), .val (.int (2 : Int32)), .val (.int c0), .val (.int c1)] [(.int (2 : Int32))]))
  refine own_st (fun t k => XS.ifYes X48.here hx rfl (pc0 := 23) (pc' := 37) rfl (hb hby d1_23) rfl ((if0 _ _).trans (feq (by decide : ¬ ((2 : Int32) = (0 : Int32)))).2) (by decide) (by decide) k) ?_
  show own_Go p e below K (T48.setTop (mkF m 37 #[.val (.int p1), .val (.int (2 : Int32)), .val (.int c0), .val (.int c1)] []))
  refine own_st (fun t k => XS.iloadN X48.here hx rfl (hb hby d1_37) rfl k) ?_
  show own_Go p e below K (T48.setTop (mkF m 38 #[.val (.int p1), .val (.int (2 : Int32)), .val (.int c0), .val (.int c1)] [(.int (2 : Int32))]))
  refine own_st (fun t k => XS.iconst X48.here hx rfl (hb hby d1_38) k) ?_
  show own_Go p e below K (T48.setTop (mkF m 39 #[.val (.int p1), .val (.int (2 : Int32)), .val (.int c0), .val (.int c1)] [(.int (1 : Int32)), (.int (2 : Int32))]))
  refine own_st (fun t k => XS.icmpYes X48.here hx rfl (pc0 := 39) (pc' := 47) rfl (hb hby d1_39) rfl (feq (by decide : ¬ ((2 : Int32) = (1 : Int32)))).2 (by decide) (by decide) k) ?_
  show own_Go p e below K (T48.setTop (mkF m 47 #[.val (.int p1), .val (.int (2 : Int32)), .val (.int c0), .val (.int c1)] []))
  obtain ⟨T82, h82, X82, e82, E82, A82, D82, -, st82⟩ := newO X48 hx hZ hown (hw _ (List.mem_of_getElem? (i := 14) rfl)) (hw _ (List.mem_of_getElem? (i := 15) rfl)) (hw _ (List.mem_of_getElem? (i := 16) rfl)) e48 (g := (mkF m 47 #[.val (.int p1), .val (.int (2 : Int32)), .val (.int c0), .val (.int c1)] [])) rfl (hb hby d1_47) (by decide) (by decide)
  obtain ⟨b82, g82⟩ : ∃ z, z = h0.size := ⟨_, rfl⟩
  rw [← g82] at A82 D82 st82
  have ne_la_b82 : la ≠ b82 := Nat.ne_of_lt (Nat.lt_of_lt_of_le xE.lt (Nat.le_of_eq g82.symm))
  have ne_lb_b82 : lb ≠ b82 := Nat.ne_of_lt (Nat.lt_of_lt_of_le xA.lt (Nat.le_of_eq g82.symm))
  have g_b82 : n0 ≤ b82 := Nat.le_trans Z0 (Nat.le_of_eq g82.symm)
  have sz_b82 : h0.size ≤ b82 := Nat.le_trans (Keep.refl h0 []).1 (Nat.le_of_eq g82.symm)
  have f83 : Old Z n0 h82 := P0.ext E82
  have f84 : own_G 0 h82 := hG0.ext E82
  have f85 : Exa Z h82 la "java/lang/String" := xE.ext E82
  have f86 : Fld Z h82 la "java/lang/String" "coder" "B" (.int (0 : Int32)) := xC.ext E82
  have f87 : Fld Z h82 la "java/lang/String" "value" "[B" (.ref lb) := xV.ext E82
  have f88 : Arv Z h82 lb lk .byte (0 : Int32) [] (.int (0 : Int32)) := xA.ext E82
  have f89 : Fld Z h82 b82 "java/lang/String" "value" "[B" .null := D82 (Or.inr (hw _ (List.mem_of_getElem? (i := 30) rfl))) (ty := (.array .byte)) (by decide)
  have f90 : Fld Z h82 b82 "java/lang/String" "coder" "B" (.int (0 : Int32)) := D82 (Or.inr (hw _ (List.mem_of_getElem? (i := 31) rfl))) (ty := .byte) (by decide)
  have Z82 : n0 ≤ h82.size := Nat.le_trans Z0 E82.1
  have K82 : Keep h0 h82 [] := (Keep.refl h0 []).ext E82
  refine own_st st82 ?_
  show own_Go p e below K (T82.setTop (mkF m 50 #[.val (.int p1), .val (.int (2 : Int32)), .val (.int c0), .val (.int c1)] [(.ref b82)]))
  try clear X48 e48 st82 P0 hG0 xE xC xV xA
  refine own_st (fun t k => XS.dup X82.here hx rfl (hb hby d1_50) rfl rfl k) ?_
  show own_Go p e below K (T82.setTop (mkF m 51 #[.val (.int p1), .val (.int (2 : Int32)), .val (.int c0), .val (.int c1)] [(.ref b82), (.ref b82)]))
  refine own_st (fun t k => XS.iconst X82.here hx rfl (hb hby d1_51) k) ?_
  show own_Go p e below K (T82.setTop (mkF m 52 #[.val (.int p1), .val (.int (2 : Int32)), .val (.int c0), .val (.int c1)] [(.int (2 : Int32)), (.ref b82), (.ref b82)]))
  obtain ⟨T91, h91, k91, X91, e91, E91, A91, st91⟩ := newP X82 hx hZ (hw _ (List.mem_of_getElem? (i := 17) rfl)) e82 (g := (mkF m 52 #[.val (.int p1), .val (.int (2 : Int32)), .val (.int c0), .val (.int c1)] [(.int (2 : Int32)), (.ref b82), (.ref b82)])) rfl (hb hby d1_52) rfl (by decide) (cap := 2) (by decide) (by decide) (by decide) (by decide)
  obtain ⟨b91, g91⟩ : ∃ z, z = h82.size := ⟨_, rfl⟩
  rw [← g91] at A91 st91
  have ne_b82_b91 : b82 ≠ b91 := Nat.ne_of_lt (Nat.lt_of_lt_of_le A82.lt (Nat.le_of_eq g91.symm))
  have ne_la_b91 : la ≠ b91 := Nat.ne_of_lt (Nat.lt_of_lt_of_le f85.lt (Nat.le_of_eq g91.symm))
  have ne_lb_b91 : lb ≠ b91 := Nat.ne_of_lt (Nat.lt_of_lt_of_le f88.lt (Nat.le_of_eq g91.symm))
  have g_b91 : n0 ≤ b91 := Nat.le_trans Z82 (Nat.le_of_eq g91.symm)
  have sz_b91 : h0.size ≤ b91 := Nat.le_trans K82.1 (Nat.le_of_eq g91.symm)
  have f92 : Old Z n0 h91 := f83.ext E91
  have f93 : own_G 0 h91 := f84.ext E91
  have f94 : Exa Z h91 la "java/lang/String" := f85.ext E91
  have f95 : Fld Z h91 la "java/lang/String" "coder" "B" (.int (0 : Int32)) := f86.ext E91
  have f96 : Fld Z h91 la "java/lang/String" "value" "[B" (.ref lb) := f87.ext E91
  have f97 : Arv Z h91 lb lk .byte (0 : Int32) [] (.int (0 : Int32)) := f88.ext E91
  have f98 : Exa Z h91 b82 "java/lang/String" := A82.ext E91
  have f99 : Fld Z h91 b82 "java/lang/String" "value" "[B" .null := f89.ext E91
  have f100 : Fld Z h91 b82 "java/lang/String" "coder" "B" (.int (0 : Int32)) := f90.ext E91
  have V91 : Arv Z h91 b91 k91 .char (2 : Int32) [(.int (0 : Int32)), (.int (0 : Int32))] (.int (0 : Int32)) := (Arv.new A91 (by decide)).pad (pad_rep [] (.int (0 : Int32)) 2)
  have Z91 : n0 ≤ h91.size := Nat.le_trans Z82 E91.1
  have K91 : Keep h0 h91 [] := K82.ext E91
  refine own_st st91 ?_
  show own_Go p e below K (T91.setTop (mkF m 54 #[.val (.int p1), .val (.int (2 : Int32)), .val (.int c0), .val (.int c1)] [(.ref b91), (.ref b82), (.ref b82)]))
  try clear X82 e82 st91 f83 f84 f85 f86 f87 f88 A82 f89 f90
  refine own_st (fun t k => XS.dup X91.here hx rfl (hb hby d1_54) rfl rfl k) ?_
  show own_Go p e below K (T91.setTop (mkF m 55 #[.val (.int p1), .val (.int (2 : Int32)), .val (.int c0), .val (.int c1)] [(.ref b91), (.ref b91), (.ref b82), (.ref b82)]))
  refine own_st (fun t k => XS.iconst X91.here hx rfl (hb hby d1_55) k) ?_
  show own_Go p e below K (T91.setTop (mkF m 56 #[.val (.int p1), .val (.int (2 : Int32)), .val (.int c0), .val (.int c1)] [(.int (0 : Int32)), (.ref b91), (.ref b91), (.ref b82), (.ref b82)]))
  refine own_st (fun t k => XS.iloadN X91.here hx rfl (hb hby d1_56) rfl k) ?_
  show own_Go p e below K (T91.setTop (mkF m 57 #[.val (.int p1), .val (.int (2 : Int32)), .val (.int c0), .val (.int c1)] [(.int c0), (.int (0 : Int32)), (.ref b91), (.ref b91), (.ref b82), (.ref b82)]))
  obtain ⟨cl101, Ar101, qa101, Sa101, Ma101, Ha101, Ga101⟩ := id V91
  have hin101 : ¬ ((0 : Int32) < 0 ∨ cl101.slots.size ≤ ((0 : Int32)).toNatClampNeg) := inb_of Sa101 ⟨by decide, by decide⟩
  obtain ⟨T102, h102, X102, e102, W102, st102⟩ := stC X91 hx hZ e91 Ar101 (j := (0 : Int32)) hin101 (g := (mkF m 57 #[.val (.int p1), .val (.int (2 : Int32)), .val (.int c0), .val (.int c1)] [(.int c0), (.int (0 : Int32)), (.ref b91), (.ref b91), (.ref b82), (.ref b82)])) rfl rfl (hb hby d1_57)
  have id102 : nar .char c0 = c0 := (own_ch hb0)
  rw [id102] at W102
  have V102 : Arv Z h102 b91 k91 .char (2 : Int32) [(.int c0), (.int (0 : Int32))] (.int (0 : Int32)) := Arv.set Ar101 qa101 Sa101 Ma101 Ha101 Ga101 (own_fitc id102) W102 0 rfl (Nat.le_of_ble_eq_true rfl)
  have f103 : Old Z n0 h102 := f92.wr W102 g_b91
  have f104 : own_G 0 h102 := f93.wr W102
  have f105 : Exa Z h102 la "java/lang/String" := f94.wr W102
  have f106 : Fld Z h102 la "java/lang/String" "coder" "B" (.int (0 : Int32)) := f95.other W102 (Or.inl ne_la_b91)
  have f107 : Fld Z h102 la "java/lang/String" "value" "[B" (.ref lb) := f96.other W102 (Or.inl ne_la_b91)
  have f108 : Arv Z h102 lb lk .byte (0 : Int32) [] (.int (0 : Int32)) := f97.other W102 ne_lb_b91
  have f109 : Exa Z h102 b82 "java/lang/String" := f98.wr W102
  have f110 : Fld Z h102 b82 "java/lang/String" "value" "[B" .null := f99.other W102 (Or.inl ne_b82_b91)
  have f111 : Fld Z h102 b82 "java/lang/String" "coder" "B" (.int (0 : Int32)) := f100.other W102 (Or.inl ne_b82_b91)
  have N102 := Fr.snoc X102 N48 g_b91
  have Z102 : n0 ≤ h102.size := Nat.le_trans Z91 (Keep.of_wr W102).1
  have K102 : Keep h0 h102 [] := K91.wr W102 (Or.inr sz_b91)
  refine own_st st102 ?_
  show own_Go p e below K (T102.setTop (mkF m 58 #[.val (.int p1), .val (.int (2 : Int32)), .val (.int c0), .val (.int c1)] [(.ref b91), (.ref b82), (.ref b82)]))
  try clear X91 e91 st102 f92 f93 f94 f95 f96 f97 f98 f99 f100
  refine own_st (fun t k => XS.dup X102.here hx rfl (hb hby d1_58) rfl rfl k) ?_
  show own_Go p e below K (T102.setTop (mkF m 59 #[.val (.int p1), .val (.int (2 : Int32)), .val (.int c0), .val (.int c1)] [(.ref b91), (.ref b91), (.ref b82), (.ref b82)]))
  refine own_st (fun t k => XS.iconst X102.here hx rfl (hb hby d1_59) k) ?_
  show own_Go p e below K (T102.setTop (mkF m 60 #[.val (.int p1), .val (.int (2 : Int32)), .val (.int c0), .val (.int c1)] [(.int (1 : Int32)), (.ref b91), (.ref b91), (.ref b82), (.ref b82)]))
  refine own_st (fun t k => XS.iloadN X102.here hx rfl (hb hby d1_60) rfl k) ?_
  show own_Go p e below K (T102.setTop (mkF m 61 #[.val (.int p1), .val (.int (2 : Int32)), .val (.int c0), .val (.int c1)] [(.int c1), (.int (1 : Int32)), (.ref b91), (.ref b91), (.ref b82), (.ref b82)]))
  obtain ⟨cl112, Ar112, qa112, Sa112, Ma112, Ha112, Ga112⟩ := id V102
  have hin112 : ¬ ((1 : Int32) < 0 ∨ cl112.slots.size ≤ ((1 : Int32)).toNatClampNeg) := inb_of Sa112 ⟨by decide, by decide⟩
  obtain ⟨T113, h113, X113, e113, W113, st113⟩ := stC X102 hx hZ e102 Ar112 (j := (1 : Int32)) hin112 (g := (mkF m 61 #[.val (.int p1), .val (.int (2 : Int32)), .val (.int c0), .val (.int c1)] [(.int c1), (.int (1 : Int32)), (.ref b91), (.ref b91), (.ref b82), (.ref b82)])) rfl rfl (hb hby d1_61)
  have id113 : nar .char c1 = c1 := (own_ch hb1)
  rw [id113] at W113
  have V113 : Arv Z h113 b91 k91 .char (2 : Int32) [(.int c0), (.int c1)] (.int (0 : Int32)) := Arv.set Ar112 qa112 Sa112 Ma112 Ha112 Ga112 (own_fitc id113) W113 1 rfl (Nat.le_of_ble_eq_true rfl)
  have f114 : Old Z n0 h113 := f103.wr W113 g_b91
  have f115 : own_G 0 h113 := f104.wr W113
  have f116 : Exa Z h113 la "java/lang/String" := f105.wr W113
  have f117 : Fld Z h113 la "java/lang/String" "coder" "B" (.int (0 : Int32)) := f106.other W113 (Or.inl ne_la_b91)
  have f118 : Fld Z h113 la "java/lang/String" "value" "[B" (.ref lb) := f107.other W113 (Or.inl ne_la_b91)
  have f119 : Arv Z h113 lb lk .byte (0 : Int32) [] (.int (0 : Int32)) := f108.other W113 ne_lb_b91
  have f120 : Exa Z h113 b82 "java/lang/String" := f109.wr W113
  have f121 : Fld Z h113 b82 "java/lang/String" "value" "[B" .null := f110.other W113 (Or.inl ne_b82_b91)
  have f122 : Fld Z h113 b82 "java/lang/String" "coder" "B" (.int (0 : Int32)) := f111.other W113 (Or.inl ne_b82_b91)
  have N113 := Fr.snoc X113 N102 g_b91
  have Z113 : n0 ≤ h113.size := Nat.le_trans Z102 (Keep.of_wr W113).1
  have K113 : Keep h0 h113 [] := K102.wr W113 (Or.inr sz_b91)
  refine own_st st113 ?_
  show own_Go p e below K (T113.setTop (mkF m 62 #[.val (.int p1), .val (.int (2 : Int32)), .val (.int c0), .val (.int c1)] [(.ref b91), (.ref b82), (.ref b82)]))
  try clear X102 e102 st113 f103 f104 f105 f106 f107 f108 f109 f110 f111
  obtain ⟨_, _, ⟨T123, L123, k123, n123⟩, -, X123, ⟨Lc123, hQ123, l123, y123, z123⟩, st123⟩ := X113.specialBack hx (y := (⟨"java/lang/String", "<init>", "([C)V"⟩ : MethodName)) rfl hown (mvT hZ (hw _ (List.mem_of_getElem? (i := 18) rfl))) (mvT hZ (hw _ (List.mem_of_getElem? (i := 19) rfl))) (mvT hZ (hw _ (List.mem_of_getElem? (i := 20) rfl))) (by decide) (backOf (W := 1) (rm4c l Z a0 hw [] b82 b91 (cs) (c0) (c1) (k91) h113 n0 Z113 g_b82 ne_b82_b91 f120 f122 f121 V113 f114 (by assumption) (by assumption) (by assumption) (by assumption)) hZ (hw _ (List.mem_of_getElem? (i := 20) rfl)) (hw _ (List.mem_of_getElem? (i := 16) rfl)) (by decide) (by decide)) (g := (mkF m 62 #[.val (.int p1), .val (.int (2 : Int32)), .val (.int c0), .val (.int c1)] [(.ref b91), (.ref b82), (.ref b82)])) rfl (by rw [hml]; rfl) (Steps.refl _) (a := b82) (argsL := [(.ref b91)]) (rest := [(.ref b82)]) (lenOf pd_1_3 rfl) rfl (by show 2 * 0 + _ ≤ _; exact Nat.le_of_eq rfl) (hb hby d1_62) (fun _ _ => ⟨rfl, e113, (by decide : 2 + 1 ≤ _), (by decide : 6 + 2 ≤ _)⟩)
  dsimp only [Pt.U, Pt.locs, Pt.cells, Pt.slots] at X123 l123 y123 z123 st123 hQ123
  obtain ⟨b_123, k_123, rfl, N123q, Kq123, p123_0, p123_1, p123_2, p123_3⟩ := hQ123
  have N123 : Fr n0 L123 := by rw [l123]; exact Fr.app N113 N123q
  clear l123
  have y123' : k123 = 3 := y123
  have z123' : n123 = 8 := z123
  clear y123 z123
  subst y123' z123'
  have f124 : Old Z n0 T123.heap := f114.keep Kq123 (allS (P := fun x => n0 ≤ x) g_b82 all0)
  have f125 : own_G 0 T123.heap := f115.keep Kq123
  have f126 : Exa Z T123.heap la "java/lang/String" := f116.keep Kq123
  have f127 : Fld Z T123.heap la "java/lang/String" "coder" "B" (.int (0 : Int32)) := f117.keep Kq123 (ninS ne_la_b82 nin0)
  have f128 : Fld Z T123.heap la "java/lang/String" "value" "[B" (.ref lb) := f118.keep Kq123 (ninS ne_la_b82 nin0)
  have f129 : Arv Z T123.heap lb lk .byte (0 : Int32) [] (.int (0 : Int32)) := f119.keep Kq123 (ninS ne_lb_b82 nin0)
  have f130 : Arv Z T123.heap b91 k91 .char (2 : Int32) [(.int c0), (.int c1)] (.int (0 : Int32)) := V113.keep Kq123 (ninS (Ne.symm ne_b82_b91) nin0)
  have Z123 : n0 ≤ T123.heap.size := Nat.le_trans Z113 Kq123.1
  have K123 : Keep h0 T123.heap [] := K113.trans Kq123 (allS (P := fun x => x ∈ [] ∨ h0.size ≤ x) (Or.inr sz_b82) all0)
  refine own_tr st123 ?_
  show own_Go p e below K (T123.setTop (mkF m 65 #[.val (.int p1), .val (.int (2 : Int32)), .val (.int c0), .val (.int c1)] [(.ref b82)]))
  try clear X113 e113 st123 N113 N123q f114 f115 f116 f117 f118 f119 V113
  obtain ⟨fs, hr, hrun, hended, hEW⟩ := (show Stand p l e ({ frames := 4, cells := 4, slots := 8, locals := 66 } : Room) (s.setVm s.vm) m #[(.int p1)] below meth c T123 _ 3 8 from X123).leaveW hS0 f125 (v := some (.ref b82)) (fun h => by rw [Bd.returns] at h; cases h)
  refine ⟨_, X123.areturnOut hx rfl Bd.returns rfl (hb hby d1_65) hr, fin _ _ _ hrun hended ?_ ⟨hEW.1, hEW.2.1, hEW.2.2.1, hEW.2.2.2.mono (by decide) (by decide)⟩⟩
  show Q1 Z p1 cs h0 n0 _ T123.heap T123.vm _
  exact ⟨_, b_123, k_123, (2 : Int32), rfl, trivial, sz_b82, N123, K123, p123_0, p123_1, p123_2, (by rw [own_S2 hr48 hd0 hd1]; exact p123_3), (by rw [own_S2 hr48 hd0 hd1]; rfl), (Or.inr (Or.inr rfl)), (own_W.warm (s := s) (show own_W Z s.vm T123.heap from Or.inr ⟨la, lb, lk, hL0, f126, f127, f128, f129⟩) X123.warmed)⟩
theorem d7_0 : decode prog_18_method_1_code 0 = .ok (.aload_n 0, 1) := by decide +kernel
theorem d7_1 : decode prog_18_method_1_code 1 = .ok (.invokespecial 1, 3) := by decide +kernel
theorem d7_4 : decode prog_18_method_1_code 4 = .ok (.aload_n 0, 1) := by decide +kernel
theorem d7_5 : decode prog_18_method_1_code 5 = .ok (.aload_n 1, 1) := by decide +kernel
theorem d7_6 : decode prog_18_method_1_code 6 = .ok (.putfield 7, 3) := by decide +kernel
theorem d7_9 : decode prog_18_method_1_code 9 = .ok (.aload_n 0, 1) := by decide +kernel
theorem d7_10 : decode prog_18_method_1_code 10 = .ok (.aload_n 2, 1) := by decide +kernel
theorem d7_11 : decode prog_18_method_1_code 11 = .ok (.putfield 13, 3) := by decide +kernel
theorem d7_14 : decode prog_18_method_1_code 14 = .ok (.return_, 1) := by decide +kernel
theorem pn_7 : plainName "com/example/coverbill/coverbill/book/Identifier" = true := by first | (simp [plainName, overriddenIn]; done) | decide +kernel
theorem ef_7 (m : MethodId) (x0 : Addr) (x1 : Addr) (x2 : Addr) : entryFrame m #[(.ref x0), (.ref x1), (.ref x2)] 3 = mkF m 0 #[.val (.ref x0), .val (.ref x1), .val (.ref x2)] [] := by first | (simp [entryFrame, mkF, argsToLocals, Value.category]; done) | rfl
def Q7 (Z : State) (a1 : Addr) (pt : Addr) (pv : Addr) (h0 : Heap) (n0 : Nat) (v : Option Value) (h : Heap) (L : List Loc) : Prop := v = none ∧ Fr n0 L ∧ Keep h0 h [a1] ∧ (Exa Z h a1 "com/example/coverbill/coverbill/book/Identifier") ∧ (Fld Z h a1 "com/example/coverbill/coverbill/book/Identifier" "type" "Ljava/lang/String;" (.ref pt)) ∧ (Fld Z h a1 "com/example/coverbill/coverbill/book/Identifier" "value" "Ljava/lang/String;" (.ref pv))
set_option maxRecDepth 65536 in
set_option maxHeartbeats 40000000 in
theorem rm7 (l : Launch) (Z : State) (a0 : Array Value) (hw : ∀ d ∈ tables_1, d.before a0 Z = true) (ws : List Jvm.Cond) (a1 : Addr) (pt : Addr) (pv : Addr) (h0 : Heap) (n0 : Nat) (Z0 : n0 ≤ h0.size) (g_a1 : n0 ≤ a1) (P0 : Exa Z h0 a1 "com/example/coverbill/coverbill/book/Identifier") (P1 : Fld Z h0 a1 "com/example/coverbill/coverbill/book/Identifier" "type" "Ljava/lang/String;" .null) (P2 : Fld Z h0 a1 "com/example/coverbill/coverbill/book/Identifier" "value" "Ljava/lang/String;" .null) :
    MetFree l (⟨"com/example/coverbill/coverbill/book/Identifier", "<init>", "(Ljava/lang/String;Ljava/lang/String;)V"⟩ : MethodName) (head1 (Jvm.Cond.code (⟨"com/example/coverbill/coverbill/book/Identifier", "<init>", "(Ljava/lang/String;Ljava/lang/String;)V"⟩ : MethodName) prog_18_method_1_code 3 none :: ws) ({ frames := 1, cells := 0, slots := 0, locals := 12 } : Room)) (fun a U => a = #[(.ref a1), (.ref pt), (.ref pv)] ∧ Z.Warmed39 U.vm ∧ U.heap = h0) (fun _ _ _ _ _ => True) (fun _ U o U' => ∃ v L, o = .returned v ∧ Q7 Z a1 pt pv h0 n0 v U'.heap L ∧ FrameEnd U o U' L ({ frames := 1, cells := 0, slots := 0, locals := 12 } : Room).cells ({ frames := 1, cells := 0, slots := 0, locals := 12 } : Room).slots) := by
  refine MetFree.of_bodySF (plainFor_of_name pn_7) hisR ?_
  intro p e s m args below meth c s₁ Bd hml0 hP hK
  obtain ⟨rfl, hZ, hh⟩ := hP
  have hx := Bd.exec
  have hby := Bd.bytes
  have hml : c.maxLocals = 3 := hml0
  have hown : s.vm.findClass "com/example/coverbill/coverbill/book/Identifier" = some m.cls := findClass_of_methodNamed Bd.named
  have hnm := (name_of_methodNamed Bd.named Bd.method).1
  have X0 : Stand p l e ({ frames := 1, cells := 0, slots := 0, locals := 12 } : Room) s m #[(.ref a1), (.ref pt), (.ref pv)] below meth c s₁ [] 0 0 := Stand.of_body Bd
  have e0 : s₁.heap = h0 := by rw [← hh, Bd.state]; rfl
  have N0 := Fr.nil n0
  suffices G0 : ∀ K : State → Prop, (∀ (n : State) (v : Option Value) (L : List Loc), n.status = .running → Ended n below (.returned v) → Q7 Z a1 pt pv h0 n0 v n.heap L → FrameEnd s (.returned v) n L ({ frames := 1, cells := 0, slots := 0, locals := 12 } : Room).cells ({ frames := 1, cells := 0, slots := 0, locals := 12 } : Room).slots → K n) → own_Go p e below K (s₁.setTop (mkF m 0 #[.val (.ref a1), .val (.ref pt), .val (.ref pv)] [])) by
    obtain ⟨t, st, o, a, b, v, L, e1, q, fe⟩ := G0 (fun n => ∃ o, n.status = .running ∧ Ended n below o ∧ ∃ v L, o = .returned v ∧ Q7 Z a1 pt pv h0 n0 v n.heap L ∧ FrameEnd s o n L ({ frames := 1, cells := 0, slots := 0, locals := 12 } : Room).cells ({ frames := 1, cells := 0, slots := 0, locals := 12 } : Room).slots) (fun n v L a b q f => ⟨_, a, b, v, L, rfl, q, f⟩)
    exact ⟨t, o, castTop (ef_7 m a1 pt pv) st, a, b, v, L, e1, q, fe⟩
  intro K fin
  show own_Go p e below K (s₁.setTop (mkF m 0 #[.val (.ref a1), .val (.ref pt), .val (.ref pv)] []))
  refine own_st (fun t k => XS.aloadN X0.here hx rfl (hb hby d7_0) rfl rfl k) ?_
  show own_Go p e below K (s₁.setTop (mkF m 1 #[.val (.ref a1), .val (.ref pt), .val (.ref pv)] [(.ref a1)]))
  obtain ⟨T1, X1, e1, st1⟩ := initO X0 hx hZ hown (hw _ (List.mem_of_getElem? (i := 39) rfl)) (hw _ (List.mem_of_getElem? (i := 26) rfl)) (hw _ (List.mem_of_getElem? (i := 27) rfl)) e0 (g := (mkF m 1 #[.val (.ref a1), .val (.ref pt), .val (.ref pv)] [(.ref a1)])) rfl (by rw [hml]; rfl) rfl (hb hby d7_1) (by decide) (W := 0) (by show 2 * 0 + _ ≤ _; exact Nat.le_of_eq rfl) (by decide)
  refine own_st st1 ?_
  show own_Go p e below K (T1.setTop (mkF m 4 #[.val (.ref a1), .val (.ref pt), .val (.ref pv)] []))
  try clear st1
  refine own_st (fun t k => XS.aloadN X1.here hx rfl (hb hby d7_4) rfl rfl k) ?_
  show own_Go p e below K (T1.setTop (mkF m 5 #[.val (.ref a1), .val (.ref pt), .val (.ref pv)] [(.ref a1)]))
  refine own_st (fun t k => XS.aloadN X1.here hx rfl (hb hby d7_5) rfl rfl k) ?_
  show own_Go p e below K (T1.setTop (mkF m 6 #[.val (.ref a1), .val (.ref pt), .val (.ref pv)] [(.ref pt), (.ref a1)]))
  obtain ⟨T2, h2, X2, e2, W2, st2⟩ := putF X1 hx hZ hown (host := "") (Or.inl (hw _ (List.mem_of_getElem? (i := 40) rfl))) Via.refl e1 P1 P0 (Or.inr ⟨(hw _ (List.mem_of_getElem? (i := 41) rfl)), rfl, hnm⟩) (hw _ (List.mem_of_getElem? (i := 1) rfl)) (ty := (.object "java/lang/String")) (by decide) rfl rfl (g := (mkF m 6 #[.val (.ref a1), .val (.ref pt), .val (.ref pv)] [(.ref pt), (.ref a1)])) rfl rfl (hb hby d7_6)
  have fw2 : Fld Z h2 a1 "com/example/coverbill/coverbill/book/Identifier" "type" "Ljava/lang/String;" (.ref pt) := P1.same W2
  have f3 : Exa Z h2 a1 "com/example/coverbill/coverbill/book/Identifier" := P0.wr W2
  have f4 : Fld Z h2 a1 "com/example/coverbill/coverbill/book/Identifier" "value" "Ljava/lang/String;" .null := P2.other W2 (Or.inr (slot_ne (Or.inr (hw _ (List.mem_of_getElem? (i := 43) rfl))) (Or.inr (hw _ (List.mem_of_getElem? (i := 41) rfl))) (by decide) (t := (.object "java/lang/String")) (t' := (.object "java/lang/String")) (by decide) (by decide)))
  have N2 := Fr.snoc X2 N0 g_a1
  have Z2 : n0 ≤ h2.size := Nat.le_trans Z0 (Keep.of_wr W2).1
  have K2 : Keep h0 h2 [a1] := (Keep.refl h0 [a1]).wr W2 (Or.inl (List.mem_of_getElem? (i := 0) rfl))
  refine own_st st2 ?_
  show own_Go p e below K (T2.setTop (mkF m 9 #[.val (.ref a1), .val (.ref pt), .val (.ref pv)] []))
  try clear X1 e1 st2 P0 P2
  refine own_st (fun t k => XS.aloadN X2.here hx rfl (hb hby d7_9) rfl rfl k) ?_
  show own_Go p e below K (T2.setTop (mkF m 10 #[.val (.ref a1), .val (.ref pt), .val (.ref pv)] [(.ref a1)]))
  refine own_st (fun t k => XS.aloadN X2.here hx rfl (hb hby d7_10) rfl rfl k) ?_
  show own_Go p e below K (T2.setTop (mkF m 11 #[.val (.ref a1), .val (.ref pt), .val (.ref pv)] [(.ref pv), (.ref a1)]))
  obtain ⟨T5, h5, X5, e5, W5, st5⟩ := putF X2 hx hZ hown (host := "") (Or.inl (hw _ (List.mem_of_getElem? (i := 42) rfl))) Via.refl e2 f4 f3 (Or.inr ⟨(hw _ (List.mem_of_getElem? (i := 43) rfl)), rfl, hnm⟩) (hw _ (List.mem_of_getElem? (i := 1) rfl)) (ty := (.object "java/lang/String")) (by decide) rfl rfl (g := (mkF m 11 #[.val (.ref a1), .val (.ref pt), .val (.ref pv)] [(.ref pv), (.ref a1)])) rfl rfl (hb hby d7_11)
  have fw5 : Fld Z h5 a1 "com/example/coverbill/coverbill/book/Identifier" "value" "Ljava/lang/String;" (.ref pv) := f4.same W5
  have f6 : Exa Z h5 a1 "com/example/coverbill/coverbill/book/Identifier" := f3.wr W5
  have f7 : Fld Z h5 a1 "com/example/coverbill/coverbill/book/Identifier" "type" "Ljava/lang/String;" (.ref pt) := fw2.other W5 (Or.inr (slot_ne (Or.inr (hw _ (List.mem_of_getElem? (i := 41) rfl))) (Or.inr (hw _ (List.mem_of_getElem? (i := 43) rfl))) (by decide) (t := (.object "java/lang/String")) (t' := (.object "java/lang/String")) (by decide) (by decide)))
  have N5 := Fr.snoc X5 N2 g_a1
  have Z5 : n0 ≤ h5.size := Nat.le_trans Z2 (Keep.of_wr W5).1
  have K5 : Keep h0 h5 [a1] := K2.wr W5 (Or.inl (List.mem_of_getElem? (i := 0) rfl))
  refine own_st st5 ?_
  show own_Go p e below K (T5.setTop (mkF m 14 #[.val (.ref a1), .val (.ref pt), .val (.ref pv)] []))
  try clear X2 e2 st5 f3 fw2
  obtain ⟨fs, hr, hrun, hended, hW, hsame⟩ := X5.leave (v := none) (fun _ => rfl)
  refine ⟨_, X5.returnOut hx Bd.returns (hb hby d7_14) hr, fin _ _ _ hrun hended ?_ ⟨⟨_, rfl⟩, hW, hsame.mono (by decide) (by decide)⟩⟩
  show Q7 Z a1 pt pv h0 n0 _ T5.heap _
  rw [e5]
  exact ⟨rfl, N5, K5, f6, f7, fw5⟩
theorem d8_0 : decode method_4_code 0 = .ok (.iload_n 0, 1) := by decide +kernel
theorem d8_1 : decode method_4_code 1 = .ok (.invokestatic 13, 3) := by decide +kernel
theorem d8_4 : decode method_4_code 4 = .ok (.istore_n 2, 1) := by decide +kernel
theorem d8_5 : decode method_4_code 5 = .ok (.iload_n 2, 1) := by decide +kernel
theorem d8_6 : decode method_4_code 6 = .ok (.iload_n 1, 1) := by decide +kernel
theorem d8_7 : decode method_4_code 7 = .ok (.invokestatic 13, 3) := by decide +kernel
theorem d8_10 : decode method_4_code 10 = .ok (.if_icmp .eq 5, 3) := by decide +kernel
theorem d8_13 : decode method_4_code 13 = .ok (.iconst 0, 1) := by decide +kernel
theorem d8_14 : decode method_4_code 14 = .ok (.ireturn, 1) := by decide +kernel
theorem d8_15 : decode method_4_code 15 = .ok (.iload_n 2, 1) := by decide +kernel
theorem d8_16 : decode method_4_code 16 = .ok (.iconst 1, 1) := by decide +kernel
theorem d8_17 : decode method_4_code 17 = .ok (.if_icmp .lt 18, 3) := by decide +kernel
theorem d8_20 : decode method_4_code 20 = .ok (.iload_n 0, 1) := by decide +kernel
theorem d8_21 : decode method_4_code 21 = .ok (.sipush 255, 3) := by decide +kernel
theorem d8_24 : decode method_4_code 24 = .ok (.iand, 1) := by decide +kernel
theorem d8_25 : decode method_4_code 25 = .ok (.iload_n 1, 1) := by decide +kernel
theorem d8_26 : decode method_4_code 26 = .ok (.sipush 255, 3) := by decide +kernel
theorem d8_29 : decode method_4_code 29 = .ok (.iand, 1) := by decide +kernel
theorem d8_30 : decode method_4_code 30 = .ok (.if_icmp .eq 5, 3) := by decide +kernel
theorem d8_33 : decode method_4_code 33 = .ok (.iconst 0, 1) := by decide +kernel
theorem d8_34 : decode method_4_code 34 = .ok (.ireturn, 1) := by decide +kernel
theorem d8_35 : decode method_4_code 35 = .ok (.iload_n 2, 1) := by decide +kernel
theorem d8_36 : decode method_4_code 36 = .ok (.iconst 2, 1) := by decide +kernel
theorem d8_37 : decode method_4_code 37 = .ok (.if_icmp .ne 24, 3) := by decide +kernel
theorem d8_40 : decode method_4_code 40 = .ok (.iload_n 0, 1) := by decide +kernel
theorem d8_41 : decode method_4_code 41 = .ok (.bipush 8, 2) := by decide +kernel
theorem d8_43 : decode method_4_code 43 = .ok (.iushr, 1) := by decide +kernel
theorem d8_44 : decode method_4_code 44 = .ok (.sipush 255, 3) := by decide +kernel
theorem d8_47 : decode method_4_code 47 = .ok (.iand, 1) := by decide +kernel
theorem d8_48 : decode method_4_code 48 = .ok (.iload_n 1, 1) := by decide +kernel
theorem d8_49 : decode method_4_code 49 = .ok (.bipush 8, 2) := by decide +kernel
theorem d8_51 : decode method_4_code 51 = .ok (.iushr, 1) := by decide +kernel
theorem d8_52 : decode method_4_code 52 = .ok (.sipush 255, 3) := by decide +kernel
theorem d8_55 : decode method_4_code 55 = .ok (.iand, 1) := by decide +kernel
theorem d8_56 : decode method_4_code 56 = .ok (.if_icmp .eq 5, 3) := by decide +kernel
theorem d8_59 : decode method_4_code 59 = .ok (.iconst 0, 1) := by decide +kernel
theorem d8_60 : decode method_4_code 60 = .ok (.ireturn, 1) := by decide +kernel
theorem d8_61 : decode method_4_code 61 = .ok (.iconst 1, 1) := by decide +kernel
theorem d8_62 : decode method_4_code 62 = .ok (.ireturn, 1) := by decide +kernel
theorem pn_8 : plainName "com/example/coverbill/coverbill/book/IdentifierEqualsPinLaw" = true := by first | (simp [plainName, overriddenIn]; done) | decide +kernel
theorem pd_8_1 : parseMethodDescriptor "(I)I" = some ⟨[.int], some .int⟩ := by decide +kernel
theorem ef_8 (m : MethodId) (x0 : Int32) (x1 : Int32) : entryFrame m #[(.int x0), (.int x1)] 3 = mkF m 0 #[.val (.int x0), .val (.int x1), .unset] [] := by first | (simp [entryFrame, mkF, argsToLocals, Value.category]; done) | rfl
def Q8 (Z : State) (p1 : Int32) (p2 : Int32) (h0 : Heap) (n0 : Nat) (v : Option Value) (h : Heap) (L : List Loc) : Prop := ∃ (r : Int32), v = some (.int r) ∧ (own_B (own_S p1 = own_S p2) r) ∧ Fr n0 L ∧ h = h0
set_option maxRecDepth 65536 in
set_option maxHeartbeats 40000000 in
theorem rm8 (l : Launch) (Z : State) (a0 : Array Value) (hw : ∀ d ∈ tables_1, d.before a0 Z = true) (ws : List Jvm.Cond) (p1 : Int32) (p2 : Int32) (h0 : Heap) (n0 : Nat) (Z0 : n0 ≤ h0.size)  :
    MetFree l (⟨"com/example/coverbill/coverbill/book/IdentifierEqualsPinLaw", "same", "(II)Z"⟩ : MethodName) (head1 (Jvm.Cond.code (⟨"com/example/coverbill/coverbill/book/IdentifierEqualsPinLaw", "same", "(II)Z"⟩ : MethodName) method_4_code 3 (some .boolean) :: ws) ({ frames := 2, cells := 0, slots := 0, locals := 26 } : Room)) (fun a U => a = #[(.int p1), (.int p2)] ∧ Z.Warmed39 U.vm ∧ U.heap = h0) (fun _ _ _ _ _ => True) (fun _ U o U' => ∃ v L, o = .returned v ∧ Q8 Z p1 p2 h0 n0 v U'.heap L ∧ FrameEnd U o U' L ({ frames := 2, cells := 0, slots := 0, locals := 26 } : Room).cells ({ frames := 2, cells := 0, slots := 0, locals := 26 } : Room).slots) := by
  refine MetFree.of_bodySF (plainFor_of_name pn_8) hisR ?_
  intro p e s m args below meth c s₁ Bd hml0 hP hK
  obtain ⟨rfl, hZ, hh⟩ := hP
  have hx := Bd.exec
  have hby := Bd.bytes
  have hml : c.maxLocals = 3 := hml0
  have hown : s.vm.findClass "com/example/coverbill/coverbill/book/IdentifierEqualsPinLaw" = some m.cls := findClass_of_methodNamed Bd.named
  have hnm := (name_of_methodNamed Bd.named Bd.method).1
  have X0 : Stand p l e ({ frames := 2, cells := 0, slots := 0, locals := 26 } : Room) s m #[(.int p1), (.int p2)] below meth c s₁ [] 0 0 := Stand.of_body Bd
  have e0 : s₁.heap = h0 := by rw [← hh, Bd.state]; rfl
  have N0 := Fr.nil n0
  suffices G0 : ∀ K : State → Prop, (∀ (n : State) (v : Option Value) (L : List Loc), n.status = .running → Ended n below (.returned v) → Q8 Z p1 p2 h0 n0 v n.heap L → FrameEnd s (.returned v) n L ({ frames := 2, cells := 0, slots := 0, locals := 26 } : Room).cells ({ frames := 2, cells := 0, slots := 0, locals := 26 } : Room).slots → K n) → own_Go p e below K (s₁.setTop (mkF m 0 #[.val (.int p1), .val (.int p2), .unset] [])) by
    obtain ⟨t, st, o, a, b, v, L, e1, q, fe⟩ := G0 (fun n => ∃ o, n.status = .running ∧ Ended n below o ∧ ∃ v L, o = .returned v ∧ Q8 Z p1 p2 h0 n0 v n.heap L ∧ FrameEnd s o n L ({ frames := 2, cells := 0, slots := 0, locals := 26 } : Room).cells ({ frames := 2, cells := 0, slots := 0, locals := 26 } : Room).slots) (fun n v L a b q f => ⟨_, a, b, v, L, rfl, q, f⟩)
    exact ⟨t, o, castTop (ef_8 m p1 p2) st, a, b, v, L, e1, q, fe⟩
  intro K fin
  show own_Go p e below K (s₁.setTop (mkF m 0 #[.val (.int p1), .val (.int p2), .unset] []))
  refine own_st (fun t k => XS.iloadN X0.here hx rfl (hb hby d8_0) rfl k) ?_
  show own_Go p e below K (s₁.setTop (mkF m 1 #[.val (.int p1), .val (.int p2), .unset] [(.int p1)]))
  obtain ⟨_, _, ⟨T1, L1, k1, n1⟩, -, X1, ⟨Lc1, hQ1, l1, y1, z1⟩, st1⟩ := Jvm.LawKit.callS X0 hx (y := (⟨"com/example/coverbill/coverbill/book/IdentifierEqualsPinLaw", "len", "(I)I"⟩ : MethodName)) hown (mvT hZ (hw _ (List.mem_of_getElem? (i := 7) rfl))) (mvT hZ (hw _ (List.mem_of_getElem? (i := 8) rfl))) (mvT hZ (hw _ (List.mem_of_getElem? (i := 5) rfl))) (mvT hZ (hw _ (List.mem_of_getElem? (i := 9) rfl))) (by decide) (backOf (W := 0) (rm2 l Z a0 hw [] p1 h0 n0 Z0) hZ (hw _ (List.mem_of_getElem? (i := 9) rfl)) (hw _ (List.mem_of_getElem? (i := 5) rfl)) (by decide) (by decide)) (g := (mkF m 1 #[.val (.int p1), .val (.int p2), .unset] [(.int p1)])) rfl (by rw [hml]; rfl) (argsL := [(.int p1)]) (rest := []) (lenOf pd_8_1 rfl) rfl (by show 2 * 0 + _ ≤ _; exact Nat.le_of_eq rfl) (hb hby d8_1) (fun _ _ => ⟨rfl, e0, (by decide : 0 + 0 ≤ _), (by decide : 0 + 0 ≤ _)⟩)
  dsimp only [Pt.U, Pt.locs, Pt.cells, Pt.slots] at X1 l1 y1 z1 st1 hQ1
  obtain ⟨r1, rfl, hr1, N1q, e1⟩ := hQ1
  have N1 : Fr n0 L1 := by rw [l1]; exact Fr.app N0 N1q
  clear l1
  have y1' : k1 = 0 := y1
  have z1' : n1 = 0 := z1
  clear y1 z1
  subst y1' z1'
  refine own_st st1 ?_
  show own_Go p e below K (T1.setTop (mkF m 4 #[.val (.int p1), .val (.int p2), .unset] [(.int r1)]))
  try clear st1 N1q
  refine own_st (fun t k => XS.istoreN X1.here hx rfl (hb hby d8_4) rfl (l' := #[.val (.int p1), .val (.int p2), .val (.int r1)]) rfl k) ?_
  show own_Go p e below K (T1.setTop (mkF m 5 #[.val (.int p1), .val (.int p2), .val (.int r1)] []))
  refine own_st (fun t k => XS.iloadN X1.here hx rfl (hb hby d8_5) rfl k) ?_
  show own_Go p e below K (T1.setTop (mkF m 6 #[.val (.int p1), .val (.int p2), .val (.int r1)] [(.int r1)]))
  refine own_st (fun t k => XS.iloadN X1.here hx rfl (hb hby d8_6) rfl k) ?_
  show own_Go p e below K (T1.setTop (mkF m 7 #[.val (.int p1), .val (.int p2), .val (.int r1)] [(.int p2), (.int r1)]))
  obtain ⟨_, _, ⟨T2, L2, k2, n2⟩, -, X2, ⟨Lc2, hQ2, l2, y2, z2⟩, st2⟩ := Jvm.LawKit.callS X1 hx (y := (⟨"com/example/coverbill/coverbill/book/IdentifierEqualsPinLaw", "len", "(I)I"⟩ : MethodName)) hown (mvT hZ (hw _ (List.mem_of_getElem? (i := 7) rfl))) (mvT hZ (hw _ (List.mem_of_getElem? (i := 8) rfl))) (mvT hZ (hw _ (List.mem_of_getElem? (i := 5) rfl))) (mvT hZ (hw _ (List.mem_of_getElem? (i := 9) rfl))) (by decide) (backOf (W := 1) (rm2 l Z a0 hw [] p2 h0 n0 Z0) hZ (hw _ (List.mem_of_getElem? (i := 9) rfl)) (hw _ (List.mem_of_getElem? (i := 5) rfl)) (by decide) (by decide)) (g := (mkF m 7 #[.val (.int p1), .val (.int p2), .val (.int r1)] [(.int p2), (.int r1)])) rfl (by rw [hml]; rfl) (argsL := [(.int p2)]) (rest := [(.int r1)]) (lenOf pd_8_1 rfl) rfl (by show 2 * 0 + _ ≤ _; exact Nat.le_of_eq rfl) (hb hby d8_7) (fun _ _ => ⟨rfl, e1, (by decide : 0 + 0 ≤ _), (by decide : 0 + 0 ≤ _)⟩)
  dsimp only [Pt.U, Pt.locs, Pt.cells, Pt.slots] at X2 l2 y2 z2 st2 hQ2
  obtain ⟨r2, rfl, hr2, N2q, e2⟩ := hQ2
  have N2 : Fr n0 L2 := by rw [l2]; exact Fr.app N1 N2q
  clear l2
  have y2' : k2 = 0 := y2
  have z2' : n2 = 0 := z2
  clear y2 z2
  subst y2' z2'
  refine own_st st2 ?_
  show own_Go p e below K (T2.setTop (mkF m 10 #[.val (.int p1), .val (.int p2), .val (.int r1)] [(.int r2), (.int r1)]))
  try clear X1 e1 st2 N1 N2q
  by_cases hc10 : r1 = r2
  · refine own_st (fun t k => XS.icmpYes X2.here hx rfl (pc0 := 10) (pc' := 15) rfl (hb hby d8_10) rfl (teq hc10).1 (by decide) (by decide) k) ?_
    show own_Go p e below K (T2.setTop (mkF m 15 #[.val (.int p1), .val (.int p2), .val (.int r1)] []))
    refine own_st (fun t k => XS.iloadN X2.here hx rfl (hb hby d8_15) rfl k) ?_
    show own_Go p e below K (T2.setTop (mkF m 16 #[.val (.int p1), .val (.int p2), .val (.int r1)] [(.int r1)]))
    refine own_st (fun t k => XS.iconst X2.here hx rfl (hb hby d8_16) k) ?_
    show own_Go p e below K (T2.setTop (mkF m 17 #[.val (.int p1), .val (.int p2), .val (.int r1)] [(.int (1 : Int32)), (.int r1)]))
    by_cases hc17 : r1 < (1 : Int32)
    · refine own_st (fun t k => XS.icmpYes X2.here hx rfl (pc0 := 17) (pc' := 35) rfl (hb hby d8_17) rfl (tlt hc17).1 (by decide) (by decide) k) ?_
      show own_Go p e below K (T2.setTop (mkF m 35 #[.val (.int p1), .val (.int p2), .val (.int r1)] []))
      refine own_st (fun t k => XS.iloadN X2.here hx rfl (hb hby d8_35) rfl k) ?_
      show own_Go p e below K (T2.setTop (mkF m 36 #[.val (.int p1), .val (.int p2), .val (.int r1)] [(.int r1)]))
      refine own_st (fun t k => XS.iconst X2.here hx rfl (hb hby d8_36) k) ?_
      show own_Go p e below K (T2.setTop (mkF m 37 #[.val (.int p1), .val (.int p2), .val (.int r1)] [(.int (2 : Int32)), (.int r1)]))
      by_cases hc37 : r1 = (2 : Int32)
      · refine own_st (fun t k => XS.icmpNo X2.here hx rfl (hb hby d8_37) rfl (teq hc37).2 k) ?_
        show own_Go p e below K (T2.setTop (mkF m 40 #[.val (.int p1), .val (.int p2), .val (.int r1)] []))
        refine own_st (fun t k => XS.iloadN X2.here hx rfl (hb hby d8_40) rfl k) ?_
        show own_Go p e below K (T2.setTop (mkF m 41 #[.val (.int p1), .val (.int p2), .val (.int r1)] [(.int p1)]))
        refine own_st (fun t k => XS.bipush X2.here hx rfl (hb hby d8_41) k) ?_
        show own_Go p e below K (T2.setTop (mkF m 43 #[.val (.int p1), .val (.int p2), .val (.int r1)] [(.int (8 : Int32)), (.int p1)]))
        refine own_st (fun t k => XS.iushr X2.here hx rfl (hb hby d8_43) rfl k) ?_
        show own_Go p e below K (T2.setTop (mkF m 44 #[.val (.int p1), .val (.int p2), .val (.int r1)] [(.int ((p1.toUInt32 >>> ((8 : Int32) &&& 31).toUInt32).toInt32))]))
        refine own_st (fun t k => XS.sipush X2.here hx rfl (hb hby d8_44) k) ?_
        show own_Go p e below K (T2.setTop (mkF m 47 #[.val (.int p1), .val (.int p2), .val (.int r1)] [(.int (255 : Int32)), (.int ((p1.toUInt32 >>> ((8 : Int32) &&& 31).toUInt32).toInt32))]))
        refine own_st (fun t k => XS.iand X2.here hx rfl (hb hby d8_47) rfl k) ?_
        show own_Go p e below K (T2.setTop (mkF m 48 #[.val (.int p1), .val (.int p2), .val (.int r1)] [(.int (((p1.toUInt32 >>> ((8 : Int32) &&& 31).toUInt32).toInt32) &&& (255 : Int32)))]))
        refine own_st (fun t k => XS.iloadN X2.here hx rfl (hb hby d8_48) rfl k) ?_
        show own_Go p e below K (T2.setTop (mkF m 49 #[.val (.int p1), .val (.int p2), .val (.int r1)] [(.int p2), (.int (((p1.toUInt32 >>> ((8 : Int32) &&& 31).toUInt32).toInt32) &&& (255 : Int32)))]))
        refine own_st (fun t k => XS.bipush X2.here hx rfl (hb hby d8_49) k) ?_
        show own_Go p e below K (T2.setTop (mkF m 51 #[.val (.int p1), .val (.int p2), .val (.int r1)] [(.int (8 : Int32)), (.int p2), (.int (((p1.toUInt32 >>> ((8 : Int32) &&& 31).toUInt32).toInt32) &&& (255 : Int32)))]))
        refine own_st (fun t k => XS.iushr X2.here hx rfl (hb hby d8_51) rfl k) ?_
        show own_Go p e below K (T2.setTop (mkF m 52 #[.val (.int p1), .val (.int p2), .val (.int r1)] [(.int ((p2.toUInt32 >>> ((8 : Int32) &&& 31).toUInt32).toInt32)), (.int (((p1.toUInt32 >>> ((8 : Int32) &&& 31).toUInt32).toInt32) &&& (255 : Int32)))]))
        refine own_st (fun t k => XS.sipush X2.here hx rfl (hb hby d8_52) k) ?_
        show own_Go p e below K (T2.setTop (mkF m 55 #[.val (.int p1), .val (.int p2), .val (.int r1)] [(.int (255 : Int32)), (.int ((p2.toUInt32 >>> ((8 : Int32) &&& 31).toUInt32).toInt32)), (.int (((p1.toUInt32 >>> ((8 : Int32) &&& 31).toUInt32).toInt32) &&& (255 : Int32)))]))
        refine own_st (fun t k => XS.iand X2.here hx rfl (hb hby d8_55) rfl k) ?_
        show own_Go p e below K (T2.setTop (mkF m 56 #[.val (.int p1), .val (.int p2), .val (.int r1)] [(.int (((p2.toUInt32 >>> ((8 : Int32) &&& 31).toUInt32).toInt32) &&& (255 : Int32))), (.int (((p1.toUInt32 >>> ((8 : Int32) &&& 31).toUInt32).toInt32) &&& (255 : Int32)))]))
        by_cases hc56 : (((p1.toUInt32 >>> ((8 : Int32) &&& 31).toUInt32).toInt32) &&& (255 : Int32)) = (((p2.toUInt32 >>> ((8 : Int32) &&& 31).toUInt32).toInt32) &&& (255 : Int32))
        · refine own_st (fun t k => XS.icmpYes X2.here hx rfl (pc0 := 56) (pc' := 61) rfl (hb hby d8_56) rfl (teq hc56).1 (by decide) (by decide) k) ?_
          show own_Go p e below K (T2.setTop (mkF m 61 #[.val (.int p1), .val (.int p2), .val (.int r1)] []))
          refine own_st (fun t k => XS.iconst X2.here hx rfl (hb hby d8_61) k) ?_
          show own_Go p e below K (T2.setTop (mkF m 62 #[.val (.int p1), .val (.int p2), .val (.int r1)] [(.int (1 : Int32))]))
          obtain ⟨fs, hr, hrun, hended, hW, hsame⟩ := X2.leave (v := some (.int (nar .boolean (1 : Int32)))) (fun h => by rw [Bd.returns] at h; cases h)
          refine ⟨_, retN X2 hx (t := .boolean) Bd.returns (by simp) (hb hby d8_62) hr, fin _ _ _ hrun hended ?_ ⟨⟨_, rfl⟩, hW, hsame.mono (by decide) (by decide)⟩⟩
          show Q8 Z p1 p2 h0 n0 _ T2.heap _
          rw [e2]
          exact ⟨_, rfl, (by subst hr1 hr2; exact own_B.yes (by decide) ((own_iff p1 p2).mpr ⟨hc10, Or.inl hc17, Or.inr hc56⟩)), N2, rfl⟩
        refine own_st (fun t k => XS.icmpNo X2.here hx rfl (hb hby d8_56) rfl (feq hc56).1 k) ?_
        show own_Go p e below K (T2.setTop (mkF m 59 #[.val (.int p1), .val (.int p2), .val (.int r1)] []))
        refine own_st (fun t k => XS.iconst X2.here hx rfl (hb hby d8_59) k) ?_
        show own_Go p e below K (T2.setTop (mkF m 60 #[.val (.int p1), .val (.int p2), .val (.int r1)] [(.int (0 : Int32))]))
        obtain ⟨fs, hr, hrun, hended, hW, hsame⟩ := X2.leave (v := some (.int (nar .boolean (0 : Int32)))) (fun h => by rw [Bd.returns] at h; cases h)
        refine ⟨_, retN X2 hx (t := .boolean) Bd.returns (by simp) (hb hby d8_60) hr, fin _ _ _ hrun hended ?_ ⟨⟨_, rfl⟩, hW, hsame.mono (by decide) (by decide)⟩⟩
        show Q8 Z p1 p2 h0 n0 _ T2.heap _
        rw [e2]
        exact ⟨_, rfl, (by subst hr1 hr2; exact own_B.no (by decide) fun q => ((own_iff p1 p2).mp q).2.2.elim (fun z => z hc37) hc56), N2, rfl⟩
      refine own_st (fun t k => XS.icmpYes X2.here hx rfl (pc0 := 37) (pc' := 61) rfl (hb hby d8_37) rfl (feq hc37).2 (by decide) (by decide) k) ?_
      show own_Go p e below K (T2.setTop (mkF m 61 #[.val (.int p1), .val (.int p2), .val (.int r1)] []))
      refine own_st (fun t k => XS.iconst X2.here hx rfl (hb hby d8_61) k) ?_
      show own_Go p e below K (T2.setTop (mkF m 62 #[.val (.int p1), .val (.int p2), .val (.int r1)] [(.int (1 : Int32))]))
      obtain ⟨fs, hr, hrun, hended, hW, hsame⟩ := X2.leave (v := some (.int (nar .boolean (1 : Int32)))) (fun h => by rw [Bd.returns] at h; cases h)
      refine ⟨_, retN X2 hx (t := .boolean) Bd.returns (by simp) (hb hby d8_62) hr, fin _ _ _ hrun hended ?_ ⟨⟨_, rfl⟩, hW, hsame.mono (by decide) (by decide)⟩⟩
      show Q8 Z p1 p2 h0 n0 _ T2.heap _
      rw [e2]
      exact ⟨_, rfl, (by subst hr1 hr2; exact own_B.yes (by decide) ((own_iff p1 p2).mpr ⟨hc10, Or.inl hc17, Or.inl hc37⟩)), N2, rfl⟩
    refine own_st (fun t k => XS.icmpNo X2.here hx rfl (hb hby d8_17) rfl (flt hc17).1 k) ?_
    show own_Go p e below K (T2.setTop (mkF m 20 #[.val (.int p1), .val (.int p2), .val (.int r1)] []))
    refine own_st (fun t k => XS.iloadN X2.here hx rfl (hb hby d8_20) rfl k) ?_
    show own_Go p e below K (T2.setTop (mkF m 21 #[.val (.int p1), .val (.int p2), .val (.int r1)] [(.int p1)]))
    refine own_st (fun t k => XS.sipush X2.here hx rfl (hb hby d8_21) k) ?_
    show own_Go p e below K (T2.setTop (mkF m 24 #[.val (.int p1), .val (.int p2), .val (.int r1)] [(.int (255 : Int32)), (.int p1)]))
    refine own_st (fun t k => XS.iand X2.here hx rfl (hb hby d8_24) rfl k) ?_
    show own_Go p e below K (T2.setTop (mkF m 25 #[.val (.int p1), .val (.int p2), .val (.int r1)] [(.int (p1 &&& (255 : Int32)))]))
    refine own_st (fun t k => XS.iloadN X2.here hx rfl (hb hby d8_25) rfl k) ?_
    show own_Go p e below K (T2.setTop (mkF m 26 #[.val (.int p1), .val (.int p2), .val (.int r1)] [(.int p2), (.int (p1 &&& (255 : Int32)))]))
    refine own_st (fun t k => XS.sipush X2.here hx rfl (hb hby d8_26) k) ?_
    show own_Go p e below K (T2.setTop (mkF m 29 #[.val (.int p1), .val (.int p2), .val (.int r1)] [(.int (255 : Int32)), (.int p2), (.int (p1 &&& (255 : Int32)))]))
    refine own_st (fun t k => XS.iand X2.here hx rfl (hb hby d8_29) rfl k) ?_
    show own_Go p e below K (T2.setTop (mkF m 30 #[.val (.int p1), .val (.int p2), .val (.int r1)] [(.int (p2 &&& (255 : Int32))), (.int (p1 &&& (255 : Int32)))]))
    by_cases hc30 : (p1 &&& (255 : Int32)) = (p2 &&& (255 : Int32))
    · refine own_st (fun t k => XS.icmpYes X2.here hx rfl (pc0 := 30) (pc' := 35) rfl (hb hby d8_30) rfl (teq hc30).1 (by decide) (by decide) k) ?_
      show own_Go p e below K (T2.setTop (mkF m 35 #[.val (.int p1), .val (.int p2), .val (.int r1)] []))
      refine own_st (fun t k => XS.iloadN X2.here hx rfl (hb hby d8_35) rfl k) ?_
      show own_Go p e below K (T2.setTop (mkF m 36 #[.val (.int p1), .val (.int p2), .val (.int r1)] [(.int r1)]))
      refine own_st (fun t k => XS.iconst X2.here hx rfl (hb hby d8_36) k) ?_
      show own_Go p e below K (T2.setTop (mkF m 37 #[.val (.int p1), .val (.int p2), .val (.int r1)] [(.int (2 : Int32)), (.int r1)]))
      by_cases hc37 : r1 = (2 : Int32)
      · refine own_st (fun t k => XS.icmpNo X2.here hx rfl (hb hby d8_37) rfl (teq hc37).2 k) ?_
        show own_Go p e below K (T2.setTop (mkF m 40 #[.val (.int p1), .val (.int p2), .val (.int r1)] []))
        refine own_st (fun t k => XS.iloadN X2.here hx rfl (hb hby d8_40) rfl k) ?_
        show own_Go p e below K (T2.setTop (mkF m 41 #[.val (.int p1), .val (.int p2), .val (.int r1)] [(.int p1)]))
        refine own_st (fun t k => XS.bipush X2.here hx rfl (hb hby d8_41) k) ?_
        show own_Go p e below K (T2.setTop (mkF m 43 #[.val (.int p1), .val (.int p2), .val (.int r1)] [(.int (8 : Int32)), (.int p1)]))
        refine own_st (fun t k => XS.iushr X2.here hx rfl (hb hby d8_43) rfl k) ?_
        show own_Go p e below K (T2.setTop (mkF m 44 #[.val (.int p1), .val (.int p2), .val (.int r1)] [(.int ((p1.toUInt32 >>> ((8 : Int32) &&& 31).toUInt32).toInt32))]))
        refine own_st (fun t k => XS.sipush X2.here hx rfl (hb hby d8_44) k) ?_
        show own_Go p e below K (T2.setTop (mkF m 47 #[.val (.int p1), .val (.int p2), .val (.int r1)] [(.int (255 : Int32)), (.int ((p1.toUInt32 >>> ((8 : Int32) &&& 31).toUInt32).toInt32))]))
        refine own_st (fun t k => XS.iand X2.here hx rfl (hb hby d8_47) rfl k) ?_
        show own_Go p e below K (T2.setTop (mkF m 48 #[.val (.int p1), .val (.int p2), .val (.int r1)] [(.int (((p1.toUInt32 >>> ((8 : Int32) &&& 31).toUInt32).toInt32) &&& (255 : Int32)))]))
        refine own_st (fun t k => XS.iloadN X2.here hx rfl (hb hby d8_48) rfl k) ?_
        show own_Go p e below K (T2.setTop (mkF m 49 #[.val (.int p1), .val (.int p2), .val (.int r1)] [(.int p2), (.int (((p1.toUInt32 >>> ((8 : Int32) &&& 31).toUInt32).toInt32) &&& (255 : Int32)))]))
        refine own_st (fun t k => XS.bipush X2.here hx rfl (hb hby d8_49) k) ?_
        show own_Go p e below K (T2.setTop (mkF m 51 #[.val (.int p1), .val (.int p2), .val (.int r1)] [(.int (8 : Int32)), (.int p2), (.int (((p1.toUInt32 >>> ((8 : Int32) &&& 31).toUInt32).toInt32) &&& (255 : Int32)))]))
        refine own_st (fun t k => XS.iushr X2.here hx rfl (hb hby d8_51) rfl k) ?_
        show own_Go p e below K (T2.setTop (mkF m 52 #[.val (.int p1), .val (.int p2), .val (.int r1)] [(.int ((p2.toUInt32 >>> ((8 : Int32) &&& 31).toUInt32).toInt32)), (.int (((p1.toUInt32 >>> ((8 : Int32) &&& 31).toUInt32).toInt32) &&& (255 : Int32)))]))
        refine own_st (fun t k => XS.sipush X2.here hx rfl (hb hby d8_52) k) ?_
        show own_Go p e below K (T2.setTop (mkF m 55 #[.val (.int p1), .val (.int p2), .val (.int r1)] [(.int (255 : Int32)), (.int ((p2.toUInt32 >>> ((8 : Int32) &&& 31).toUInt32).toInt32)), (.int (((p1.toUInt32 >>> ((8 : Int32) &&& 31).toUInt32).toInt32) &&& (255 : Int32)))]))
        refine own_st (fun t k => XS.iand X2.here hx rfl (hb hby d8_55) rfl k) ?_
        show own_Go p e below K (T2.setTop (mkF m 56 #[.val (.int p1), .val (.int p2), .val (.int r1)] [(.int (((p2.toUInt32 >>> ((8 : Int32) &&& 31).toUInt32).toInt32) &&& (255 : Int32))), (.int (((p1.toUInt32 >>> ((8 : Int32) &&& 31).toUInt32).toInt32) &&& (255 : Int32)))]))
        by_cases hc56 : (((p1.toUInt32 >>> ((8 : Int32) &&& 31).toUInt32).toInt32) &&& (255 : Int32)) = (((p2.toUInt32 >>> ((8 : Int32) &&& 31).toUInt32).toInt32) &&& (255 : Int32))
        · refine own_st (fun t k => XS.icmpYes X2.here hx rfl (pc0 := 56) (pc' := 61) rfl (hb hby d8_56) rfl (teq hc56).1 (by decide) (by decide) k) ?_
          show own_Go p e below K (T2.setTop (mkF m 61 #[.val (.int p1), .val (.int p2), .val (.int r1)] []))
          refine own_st (fun t k => XS.iconst X2.here hx rfl (hb hby d8_61) k) ?_
          show own_Go p e below K (T2.setTop (mkF m 62 #[.val (.int p1), .val (.int p2), .val (.int r1)] [(.int (1 : Int32))]))
          obtain ⟨fs, hr, hrun, hended, hW, hsame⟩ := X2.leave (v := some (.int (nar .boolean (1 : Int32)))) (fun h => by rw [Bd.returns] at h; cases h)
          refine ⟨_, retN X2 hx (t := .boolean) Bd.returns (by simp) (hb hby d8_62) hr, fin _ _ _ hrun hended ?_ ⟨⟨_, rfl⟩, hW, hsame.mono (by decide) (by decide)⟩⟩
          show Q8 Z p1 p2 h0 n0 _ T2.heap _
          rw [e2]
          exact ⟨_, rfl, (by subst hr1 hr2; exact own_B.yes (by decide) ((own_iff p1 p2).mpr ⟨hc10, Or.inr hc30, Or.inr hc56⟩)), N2, rfl⟩
        refine own_st (fun t k => XS.icmpNo X2.here hx rfl (hb hby d8_56) rfl (feq hc56).1 k) ?_
        show own_Go p e below K (T2.setTop (mkF m 59 #[.val (.int p1), .val (.int p2), .val (.int r1)] []))
        refine own_st (fun t k => XS.iconst X2.here hx rfl (hb hby d8_59) k) ?_
        show own_Go p e below K (T2.setTop (mkF m 60 #[.val (.int p1), .val (.int p2), .val (.int r1)] [(.int (0 : Int32))]))
        obtain ⟨fs, hr, hrun, hended, hW, hsame⟩ := X2.leave (v := some (.int (nar .boolean (0 : Int32)))) (fun h => by rw [Bd.returns] at h; cases h)
        refine ⟨_, retN X2 hx (t := .boolean) Bd.returns (by simp) (hb hby d8_60) hr, fin _ _ _ hrun hended ?_ ⟨⟨_, rfl⟩, hW, hsame.mono (by decide) (by decide)⟩⟩
        show Q8 Z p1 p2 h0 n0 _ T2.heap _
        rw [e2]
        exact ⟨_, rfl, (by subst hr1 hr2; exact own_B.no (by decide) fun q => ((own_iff p1 p2).mp q).2.2.elim (fun z => z hc37) hc56), N2, rfl⟩
      refine own_st (fun t k => XS.icmpYes X2.here hx rfl (pc0 := 37) (pc' := 61) rfl (hb hby d8_37) rfl (feq hc37).2 (by decide) (by decide) k) ?_
      show own_Go p e below K (T2.setTop (mkF m 61 #[.val (.int p1), .val (.int p2), .val (.int r1)] []))
      refine own_st (fun t k => XS.iconst X2.here hx rfl (hb hby d8_61) k) ?_
      show own_Go p e below K (T2.setTop (mkF m 62 #[.val (.int p1), .val (.int p2), .val (.int r1)] [(.int (1 : Int32))]))
      obtain ⟨fs, hr, hrun, hended, hW, hsame⟩ := X2.leave (v := some (.int (nar .boolean (1 : Int32)))) (fun h => by rw [Bd.returns] at h; cases h)
      refine ⟨_, retN X2 hx (t := .boolean) Bd.returns (by simp) (hb hby d8_62) hr, fin _ _ _ hrun hended ?_ ⟨⟨_, rfl⟩, hW, hsame.mono (by decide) (by decide)⟩⟩
      show Q8 Z p1 p2 h0 n0 _ T2.heap _
      rw [e2]
      exact ⟨_, rfl, (by subst hr1 hr2; exact own_B.yes (by decide) ((own_iff p1 p2).mpr ⟨hc10, Or.inr hc30, Or.inl hc37⟩)), N2, rfl⟩
    refine own_st (fun t k => XS.icmpNo X2.here hx rfl (hb hby d8_30) rfl (feq hc30).1 k) ?_
    show own_Go p e below K (T2.setTop (mkF m 33 #[.val (.int p1), .val (.int p2), .val (.int r1)] []))
    refine own_st (fun t k => XS.iconst X2.here hx rfl (hb hby d8_33) k) ?_
    show own_Go p e below K (T2.setTop (mkF m 34 #[.val (.int p1), .val (.int p2), .val (.int r1)] [(.int (0 : Int32))]))
    obtain ⟨fs, hr, hrun, hended, hW, hsame⟩ := X2.leave (v := some (.int (nar .boolean (0 : Int32)))) (fun h => by rw [Bd.returns] at h; cases h)
    refine ⟨_, retN X2 hx (t := .boolean) Bd.returns (by simp) (hb hby d8_34) hr, fin _ _ _ hrun hended ?_ ⟨⟨_, rfl⟩, hW, hsame.mono (by decide) (by decide)⟩⟩
    show Q8 Z p1 p2 h0 n0 _ T2.heap _
    rw [e2]
    exact ⟨_, rfl, (by subst hr1 hr2; exact own_B.no (by decide) fun q => ((own_iff p1 p2).mp q).2.1.elim hc17 hc30), N2, rfl⟩
  refine own_st (fun t k => XS.icmpNo X2.here hx rfl (hb hby d8_10) rfl (feq hc10).1 k) ?_
  show own_Go p e below K (T2.setTop (mkF m 13 #[.val (.int p1), .val (.int p2), .val (.int r1)] []))
  refine own_st (fun t k => XS.iconst X2.here hx rfl (hb hby d8_13) k) ?_
  show own_Go p e below K (T2.setTop (mkF m 14 #[.val (.int p1), .val (.int p2), .val (.int r1)] [(.int (0 : Int32))]))
  obtain ⟨fs, hr, hrun, hended, hW, hsame⟩ := X2.leave (v := some (.int (nar .boolean (0 : Int32)))) (fun h => by rw [Bd.returns] at h; cases h)
  refine ⟨_, retN X2 hx (t := .boolean) Bd.returns (by simp) (hb hby d8_14) hr, fin _ _ _ hrun hended ?_ ⟨⟨_, rfl⟩, hW, hsame.mono (by decide) (by decide)⟩⟩
  show Q8 Z p1 p2 h0 n0 _ T2.heap _
  rw [e2]
  exact ⟨_, rfl, (by subst hr1 hr2; exact own_B.no (by decide) fun q => hc10 ((own_iff p1 p2).mp q).1), N2, rfl⟩
theorem d11_0 : decode jdk_43_method_13_code 0 = .ok (.aload_n 0, 1) := by decide +kernel
theorem d11_1 : decode jdk_43_method_13_code 1 = .ok (.arraylength, 1) := by decide +kernel
theorem d11_2 : decode jdk_43_method_13_code 2 = .ok (.aload_n 1, 1) := by decide +kernel
theorem d11_3 : decode jdk_43_method_13_code 3 = .ok (.arraylength, 1) := by decide +kernel
theorem d11_4 : decode jdk_43_method_13_code 4 = .ok (.if_icmp .ne 30, 3) := by decide +kernel
theorem d11_7 : decode jdk_43_method_13_code 7 = .ok (.iconst 0, 1) := by decide +kernel
theorem d11_8 : decode jdk_43_method_13_code 8 = .ok (.istore_n 2, 1) := by decide +kernel
theorem d11_9 : decode jdk_43_method_13_code 9 = .ok (.iload_n 2, 1) := by decide +kernel
theorem d11_10 : decode jdk_43_method_13_code 10 = .ok (.aload_n 0, 1) := by decide +kernel
theorem d11_11 : decode jdk_43_method_13_code 11 = .ok (.arraylength, 1) := by decide +kernel
theorem d11_12 : decode jdk_43_method_13_code 12 = .ok (.if_icmp .ge 20, 3) := by decide +kernel
theorem d11_15 : decode jdk_43_method_13_code 15 = .ok (.aload_n 0, 1) := by decide +kernel
theorem d11_16 : decode jdk_43_method_13_code 16 = .ok (.iload_n 2, 1) := by decide +kernel
theorem d11_17 : decode jdk_43_method_13_code 17 = .ok (.baload, 1) := by decide +kernel
theorem d11_18 : decode jdk_43_method_13_code 18 = .ok (.aload_n 1, 1) := by decide +kernel
theorem d11_19 : decode jdk_43_method_13_code 19 = .ok (.iload_n 2, 1) := by decide +kernel
theorem d11_20 : decode jdk_43_method_13_code 20 = .ok (.baload, 1) := by decide +kernel
theorem d11_21 : decode jdk_43_method_13_code 21 = .ok (.if_icmp .eq 5, 3) := by decide +kernel
theorem d11_24 : decode jdk_43_method_13_code 24 = .ok (.iconst 0, 1) := by decide +kernel
theorem d11_25 : decode jdk_43_method_13_code 25 = .ok (.ireturn, 1) := by decide +kernel
theorem d11_26 : decode jdk_43_method_13_code 26 = .ok (.iinc 2 1, 3) := by decide +kernel
theorem d11_29 : decode jdk_43_method_13_code 29 = .ok (.goto (-20), 3) := by decide +kernel
theorem d11_32 : decode jdk_43_method_13_code 32 = .ok (.iconst 1, 1) := by decide +kernel
theorem d11_33 : decode jdk_43_method_13_code 33 = .ok (.ireturn, 1) := by decide +kernel
theorem d11_34 : decode jdk_43_method_13_code 34 = .ok (.iconst 0, 1) := by decide +kernel
theorem d11_35 : decode jdk_43_method_13_code 35 = .ok (.ireturn, 1) := by decide +kernel
theorem pn_11 : plainName "java/lang/StringLatin1" = true := by first | (simp [plainName, overriddenIn]; done) | decide +kernel
theorem ef_11 (m : MethodId) (x0 : Addr) (x1 : Addr) : entryFrame m #[(.ref x0), (.ref x1)] 3 = mkF m 0 #[.val (.ref x0), .val (.ref x1), .unset] [] := by first | (simp [entryFrame, mkF, argsToLocals, Value.category]; done) | rfl
def Q11 (Z : State) (a1 : Addr) (a2 : Addr) (nx1 : Int32) (nx2 : Int32) (u : List Int32) (w : List Int32) (kx1 : ClassId) (kx2 : ClassId) (h0 : Heap) (n0 : Nat) (v : Option Value) (h : Heap) (L : List Loc) : Prop := ∃ (r : Int32), v = some (.int r) ∧ (own_B (u = w) r) ∧ Fr n0 L ∧ h = h0
set_option maxRecDepth 65536 in
set_option maxHeartbeats 40000000 in
theorem rm11 (l : Launch) (Z : State) (a0 : Array Value) (hw : ∀ d ∈ tables_1, d.before a0 Z = true) (ws : List Jvm.Cond) (a1 : Addr) (a2 : Addr) (nx1 : Int32) (nx2 : Int32) (u : List Int32) (w : List Int32) (kx1 : ClassId) (kx2 : ClassId) (h0 : Heap) (n0 : Nat) (Z0 : n0 ≤ h0.size) (P0 : Arv Z h0 a1 kx1 .byte nx1 (u.map Value.int) (.int (0 : Int32))) (P1 : Arv Z h0 a2 kx2 .byte nx2 (w.map Value.int) (.int (0 : Int32))) (hu : nx1.toInt = (u.length : Int)) (hv : nx2.toInt = (w.length : Int)) (hn1 : nx1 = 0 ∨ nx1 = 1 ∨ nx1 = 2) :
    MetFree l (⟨"java/lang/StringLatin1", "equals", "([B[B)Z"⟩ : MethodName) (head1 (Jvm.Cond.code (⟨"java/lang/StringLatin1", "equals", "([B[B)Z"⟩ : MethodName) jdk_43_method_13_code 3 (some .boolean) :: ws) ({ frames := 0, cells := 0, slots := 0, locals := 0 } : Room)) (fun a U => a = #[(.ref a1), (.ref a2)] ∧ Z.Warmed39 U.vm ∧ U.heap = h0) (fun _ _ _ _ _ => True) (fun _ U o U' => ∃ v L, o = .returned v ∧ Q11 Z a1 a2 nx1 nx2 u w kx1 kx2 h0 n0 v U'.heap L ∧ FrameEnd U o U' L ({ frames := 0, cells := 0, slots := 0, locals := 0 } : Room).cells ({ frames := 0, cells := 0, slots := 0, locals := 0 } : Room).slots) := by
  refine MetFree.of_bodySF (plainFor_of_name pn_11) hisR ?_
  intro p e s m args below meth c s₁ Bd hml0 hP hK
  obtain ⟨rfl, hZ, hh⟩ := hP
  have hx := Bd.exec
  have hby := Bd.bytes
  have hml : c.maxLocals = 3 := hml0
  have hown : s.vm.findClass "java/lang/StringLatin1" = some m.cls := findClass_of_methodNamed Bd.named
  have hnm := (name_of_methodNamed Bd.named Bd.method).1
  have X0 : Stand p l e ({ frames := 0, cells := 0, slots := 0, locals := 0 } : Room) s m #[(.ref a1), (.ref a2)] below meth c s₁ [] 0 0 := Stand.of_body Bd
  have e0 : s₁.heap = h0 := by rw [← hh, Bd.state]; rfl
  have N0 := Fr.nil n0
  suffices G0 : ∀ K : State → Prop, (∀ (n : State) (v : Option Value) (L : List Loc), n.status = .running → Ended n below (.returned v) → Q11 Z a1 a2 nx1 nx2 u w kx1 kx2 h0 n0 v n.heap L → FrameEnd s (.returned v) n L ({ frames := 0, cells := 0, slots := 0, locals := 0 } : Room).cells ({ frames := 0, cells := 0, slots := 0, locals := 0 } : Room).slots → K n) → own_Go p e below K (s₁.setTop (mkF m 0 #[.val (.ref a1), .val (.ref a2), .unset] [])) by
    obtain ⟨t, st, o, a, b, v, L, e1, q, fe⟩ := G0 (fun n => ∃ o, n.status = .running ∧ Ended n below o ∧ ∃ v L, o = .returned v ∧ Q11 Z a1 a2 nx1 nx2 u w kx1 kx2 h0 n0 v n.heap L ∧ FrameEnd s o n L ({ frames := 0, cells := 0, slots := 0, locals := 0 } : Room).cells ({ frames := 0, cells := 0, slots := 0, locals := 0 } : Room).slots) (fun n v L a b q f => ⟨_, a, b, v, L, rfl, q, f⟩)
    exact ⟨t, o, castTop (ef_11 m a1 a2) st, a, b, v, L, e1, q, fe⟩
  intro K fin
  show own_Go p e below K (s₁.setTop (mkF m 0 #[.val (.ref a1), .val (.ref a2), .unset] []))
  rcases hn1 with hs | hs | hs
  · subst hs
    show own_Go p e below K (s₁.setTop (mkF m 0 #[.val (.ref a1), .val (.ref a2), .unset] []))
    refine own_st (fun t k => XS.aloadN X0.here hx rfl (hb hby d11_0) rfl rfl k) ?_
    show own_Go p e below K (s₁.setTop (mkF m 1 #[.val (.ref a1), .val (.ref a2), .unset] [(.ref a1)]))
    obtain ⟨cl1, Ar1, -, Sa1, Ma1, -, -⟩ := id P0
    refine own_st (X0.arraylength hx (own_hat e0 Ar1.1) (State.isArrayOf_alike hZ.alike Ar1.2.1) (g := (mkF m 1 #[.val (.ref a1), .val (.ref a2), .unset] [(.ref a1)])) rfl rfl (hb hby d11_1)) ?_
    rw [len_of Sa1 Ma1]
    show own_Go p e below K (s₁.setTop (mkF m 2 #[.val (.ref a1), .val (.ref a2), .unset] [(.int (0 : Int32))]))
    refine own_st (fun t k => XS.aloadN X0.here hx rfl (hb hby d11_2) rfl rfl k) ?_
    show own_Go p e below K (s₁.setTop (mkF m 3 #[.val (.ref a1), .val (.ref a2), .unset] [(.ref a2), (.int (0 : Int32))]))
    obtain ⟨cl2, Ar2, -, Sa2, Ma2, -, -⟩ := id P1
    refine own_st (X0.arraylength hx (own_hat e0 Ar2.1) (State.isArrayOf_alike hZ.alike Ar2.2.1) (g := (mkF m 3 #[.val (.ref a1), .val (.ref a2), .unset] [(.ref a2), (.int (0 : Int32))])) rfl rfl (hb hby d11_3)) ?_
    rw [len_of Sa2 Ma2]
    show own_Go p e below K (s₁.setTop (mkF m 4 #[.val (.ref a1), .val (.ref a2), .unset] [(.int nx2), (.int (0 : Int32))]))
    by_cases hc4 : (0 : Int32) = nx2
    · refine own_st (fun t k => XS.icmpNo X0.here hx rfl (hb hby d11_4) rfl (teq hc4).2 k) ?_
      show own_Go p e below K (s₁.setTop (mkF m 7 #[.val (.ref a1), .val (.ref a2), .unset] []))
      subst hc4
      refine own_st (fun t k => XS.iconst X0.here hx rfl (hb hby d11_7) k) ?_
      show own_Go p e below K (s₁.setTop (mkF m 8 #[.val (.ref a1), .val (.ref a2), .unset] [(.int (0 : Int32))]))
      refine own_st (fun t k => XS.istoreN X0.here hx rfl (hb hby d11_8) rfl (l' := #[.val (.ref a1), .val (.ref a2), .val (.int (0 : Int32))]) rfl k) ?_
      show own_Go p e below K (s₁.setTop (mkF m 9 #[.val (.ref a1), .val (.ref a2), .val (.int (0 : Int32))] []))
      refine own_st (fun t k => XS.iloadN X0.here hx rfl (hb hby d11_9) rfl k) ?_
      show own_Go p e below K (s₁.setTop (mkF m 10 #[.val (.ref a1), .val (.ref a2), .val (.int (0 : Int32))] [(.int (0 : Int32))]))
      refine own_st (fun t k => XS.aloadN X0.here hx rfl (hb hby d11_10) rfl rfl k) ?_
      show own_Go p e below K (s₁.setTop (mkF m 11 #[.val (.ref a1), .val (.ref a2), .val (.int (0 : Int32))] [(.ref a1), (.int (0 : Int32))]))
      obtain ⟨cl3, Ar3, -, Sa3, Ma3, -, -⟩ := id P0
      refine own_st (X0.arraylength hx (own_hat e0 Ar3.1) (State.isArrayOf_alike hZ.alike Ar3.2.1) (g := (mkF m 11 #[.val (.ref a1), .val (.ref a2), .val (.int (0 : Int32))] [(.ref a1), (.int (0 : Int32))])) rfl rfl (hb hby d11_11)) ?_
      rw [len_of Sa3 Ma3]
      show own_Go p e below K (s₁.setTop (mkF m 12 #[.val (.ref a1), .val (.ref a2), .val (.int (0 : Int32))] [(.int (0 : Int32)), (.int (0 : Int32))]))
      refine own_st (fun t k => XS.icmpYes X0.here hx rfl (pc0 := 12) (pc' := 32) rfl (hb hby d11_12) rfl (flt (by decide : ¬ ((0 : Int32) < (0 : Int32)))).2.1 (by decide) (by decide) k) ?_
      show own_Go p e below K (s₁.setTop (mkF m 32 #[.val (.ref a1), .val (.ref a2), .val (.int (0 : Int32))] []))
      refine own_st (fun t k => XS.iconst X0.here hx rfl (hb hby d11_32) k) ?_
      show own_Go p e below K (s₁.setTop (mkF m 33 #[.val (.ref a1), .val (.ref a2), .val (.int (0 : Int32))] [(.int (1 : Int32))]))
      obtain ⟨fs, hr, hrun, hended, hW, hsame⟩ := X0.leave (v := some (.int (nar .boolean (1 : Int32)))) (fun h => by rw [Bd.returns] at h; cases h)
      refine ⟨_, retN X0 hx (t := .boolean) Bd.returns (by simp) (hb hby d11_33) hr, fin _ _ _ hrun hended ?_ ⟨⟨_, rfl⟩, hW, hsame.mono (by decide) (by decide)⟩⟩
      show Q11 Z a1 a2 ((0 : Int32)) ((0 : Int32)) u w kx1 kx2 h0 n0 _ s₁.heap _
      rw [e0]
      exact ⟨_, rfl, (own_B.yes (by decide) (own_q0 hu hv)), N0, rfl⟩
    refine own_st (fun t k => XS.icmpYes X0.here hx rfl (pc0 := 4) (pc' := 34) rfl (hb hby d11_4) rfl (feq hc4).2 (by decide) (by decide) k) ?_
    show own_Go p e below K (s₁.setTop (mkF m 34 #[.val (.ref a1), .val (.ref a2), .unset] []))
    refine own_st (fun t k => XS.iconst X0.here hx rfl (hb hby d11_34) k) ?_
    show own_Go p e below K (s₁.setTop (mkF m 35 #[.val (.ref a1), .val (.ref a2), .unset] [(.int (0 : Int32))]))
    obtain ⟨fs, hr, hrun, hended, hW, hsame⟩ := X0.leave (v := some (.int (nar .boolean (0 : Int32)))) (fun h => by rw [Bd.returns] at h; cases h)
    refine ⟨_, retN X0 hx (t := .boolean) Bd.returns (by simp) (hb hby d11_35) hr, fin _ _ _ hrun hended ?_ ⟨⟨_, rfl⟩, hW, hsame.mono (by decide) (by decide)⟩⟩
    show Q11 Z a1 a2 ((0 : Int32)) nx2 u w kx1 kx2 h0 n0 _ s₁.heap _
    rw [e0]
    exact ⟨_, rfl, (own_B.no (by decide) (own_ln hu hv hc4)), N0, rfl⟩
  · subst hs
    show own_Go p e below K (s₁.setTop (mkF m 0 #[.val (.ref a1), .val (.ref a2), .unset] []))
    refine own_st (fun t k => XS.aloadN X0.here hx rfl (hb hby d11_0) rfl rfl k) ?_
    show own_Go p e below K (s₁.setTop (mkF m 1 #[.val (.ref a1), .val (.ref a2), .unset] [(.ref a1)]))
    obtain ⟨cl4, Ar4, -, Sa4, Ma4, -, -⟩ := id P0
    refine own_st (X0.arraylength hx (own_hat e0 Ar4.1) (State.isArrayOf_alike hZ.alike Ar4.2.1) (g := (mkF m 1 #[.val (.ref a1), .val (.ref a2), .unset] [(.ref a1)])) rfl rfl (hb hby d11_1)) ?_
    rw [len_of Sa4 Ma4]
    show own_Go p e below K (s₁.setTop (mkF m 2 #[.val (.ref a1), .val (.ref a2), .unset] [(.int (1 : Int32))]))
    refine own_st (fun t k => XS.aloadN X0.here hx rfl (hb hby d11_2) rfl rfl k) ?_
    show own_Go p e below K (s₁.setTop (mkF m 3 #[.val (.ref a1), .val (.ref a2), .unset] [(.ref a2), (.int (1 : Int32))]))
    obtain ⟨cl5, Ar5, -, Sa5, Ma5, -, -⟩ := id P1
    refine own_st (X0.arraylength hx (own_hat e0 Ar5.1) (State.isArrayOf_alike hZ.alike Ar5.2.1) (g := (mkF m 3 #[.val (.ref a1), .val (.ref a2), .unset] [(.ref a2), (.int (1 : Int32))])) rfl rfl (hb hby d11_3)) ?_
    rw [len_of Sa5 Ma5]
    show own_Go p e below K (s₁.setTop (mkF m 4 #[.val (.ref a1), .val (.ref a2), .unset] [(.int nx2), (.int (1 : Int32))]))
    by_cases hc4 : (1 : Int32) = nx2
    · refine own_st (fun t k => XS.icmpNo X0.here hx rfl (hb hby d11_4) rfl (teq hc4).2 k) ?_
      show own_Go p e below K (s₁.setTop (mkF m 7 #[.val (.ref a1), .val (.ref a2), .unset] []))
      subst hc4
      refine own_st (fun t k => XS.iconst X0.here hx rfl (hb hby d11_7) k) ?_
      show own_Go p e below K (s₁.setTop (mkF m 8 #[.val (.ref a1), .val (.ref a2), .unset] [(.int (0 : Int32))]))
      refine own_st (fun t k => XS.istoreN X0.here hx rfl (hb hby d11_8) rfl (l' := #[.val (.ref a1), .val (.ref a2), .val (.int (0 : Int32))]) rfl k) ?_
      show own_Go p e below K (s₁.setTop (mkF m 9 #[.val (.ref a1), .val (.ref a2), .val (.int (0 : Int32))] []))
      refine own_st (fun t k => XS.iloadN X0.here hx rfl (hb hby d11_9) rfl k) ?_
      show own_Go p e below K (s₁.setTop (mkF m 10 #[.val (.ref a1), .val (.ref a2), .val (.int (0 : Int32))] [(.int (0 : Int32))]))
      refine own_st (fun t k => XS.aloadN X0.here hx rfl (hb hby d11_10) rfl rfl k) ?_
      show own_Go p e below K (s₁.setTop (mkF m 11 #[.val (.ref a1), .val (.ref a2), .val (.int (0 : Int32))] [(.ref a1), (.int (0 : Int32))]))
      obtain ⟨cl6, Ar6, -, Sa6, Ma6, -, -⟩ := id P0
      refine own_st (X0.arraylength hx (own_hat e0 Ar6.1) (State.isArrayOf_alike hZ.alike Ar6.2.1) (g := (mkF m 11 #[.val (.ref a1), .val (.ref a2), .val (.int (0 : Int32))] [(.ref a1), (.int (0 : Int32))])) rfl rfl (hb hby d11_11)) ?_
      rw [len_of Sa6 Ma6]
      show own_Go p e below K (s₁.setTop (mkF m 12 #[.val (.ref a1), .val (.ref a2), .val (.int (0 : Int32))] [(.int (1 : Int32)), (.int (0 : Int32))]))
      refine own_st (fun t k => XS.icmpNo X0.here hx rfl (hb hby d11_12) rfl (tlt (by decide : (0 : Int32) < (1 : Int32))).2.1 k) ?_
      show own_Go p e below K (s₁.setTop (mkF m 15 #[.val (.ref a1), .val (.ref a2), .val (.int (0 : Int32))] []))
      refine own_st (fun t k => XS.aloadN X0.here hx rfl (hb hby d11_15) rfl rfl k) ?_
      show own_Go p e below K (s₁.setTop (mkF m 16 #[.val (.ref a1), .val (.ref a2), .val (.int (0 : Int32))] [(.ref a1)]))
      refine own_st (fun t k => XS.iloadN X0.here hx rfl (hb hby d11_16) rfl k) ?_
      show own_Go p e below K (s₁.setTop (mkF m 17 #[.val (.ref a1), .val (.ref a2), .val (.int (0 : Int32))] [(.int (0 : Int32)), (.ref a1)]))
      obtain ⟨cl7, Ar7, qa7, Sa7, Ma7, Ha7, Ga7⟩ := id P0
      have hin7 : ¬ ((0 : Int32) < 0 ∨ cl7.slots.size ≤ ((0 : Int32)).toNatClampNeg) := inb_of Sa7 ⟨by decide, by decide⟩
      refine own_st (X0.baloadBytes hx (j := (0 : Int32)) (v := (.int (u.getD ((0 : Int32)).toNatClampNeg 0))) (own_hat e0 Ar7.1) (State.isArrayOf_alike hZ.alike Ar7.2.1) Ar7.2.2 hin7 (Has.at Ha7 hin7 (own_atI u _)) (g := (mkF m 17 #[.val (.ref a1), .val (.ref a2), .val (.int (0 : Int32))] [(.int (0 : Int32)), (.ref a1)])) rfl rfl (hb hby d11_17)) ?_
      show own_Go p e below K (s₁.setTop (mkF m 18 #[.val (.ref a1), .val (.ref a2), .val (.int (0 : Int32))] [(.int (u.getD ((0 : Int32)).toNatClampNeg 0))]))
      refine own_st (fun t k => XS.aloadN X0.here hx rfl (hb hby d11_18) rfl rfl k) ?_
      show own_Go p e below K (s₁.setTop (mkF m 19 #[.val (.ref a1), .val (.ref a2), .val (.int (0 : Int32))] [(.ref a2), (.int (u.getD ((0 : Int32)).toNatClampNeg 0))]))
      refine own_st (fun t k => XS.iloadN X0.here hx rfl (hb hby d11_19) rfl k) ?_
      show own_Go p e below K (s₁.setTop (mkF m 20 #[.val (.ref a1), .val (.ref a2), .val (.int (0 : Int32))] [(.int (0 : Int32)), (.ref a2), (.int (u.getD ((0 : Int32)).toNatClampNeg 0))]))
      obtain ⟨cl8, Ar8, qa8, Sa8, Ma8, Ha8, Ga8⟩ := id P1
      have hin8 : ¬ ((0 : Int32) < 0 ∨ cl8.slots.size ≤ ((0 : Int32)).toNatClampNeg) := inb_of Sa8 ⟨by decide, by decide⟩
      refine own_st (X0.baloadBytes hx (j := (0 : Int32)) (v := (.int (w.getD ((0 : Int32)).toNatClampNeg 0))) (own_hat e0 Ar8.1) (State.isArrayOf_alike hZ.alike Ar8.2.1) Ar8.2.2 hin8 (Has.at Ha8 hin8 (own_atI w _)) (g := (mkF m 20 #[.val (.ref a1), .val (.ref a2), .val (.int (0 : Int32))] [(.int (0 : Int32)), (.ref a2), (.int (u.getD ((0 : Int32)).toNatClampNeg 0))])) rfl rfl (hb hby d11_20)) ?_
      show own_Go p e below K (s₁.setTop (mkF m 21 #[.val (.ref a1), .val (.ref a2), .val (.int (0 : Int32))] [(.int (w.getD ((0 : Int32)).toNatClampNeg 0)), (.int (u.getD ((0 : Int32)).toNatClampNeg 0))]))
      by_cases hc21 : (u.getD ((0 : Int32)).toNatClampNeg 0) = (w.getD ((0 : Int32)).toNatClampNeg 0)
      · refine own_st (fun t k => XS.icmpYes X0.here hx rfl (pc0 := 21) (pc' := 26) rfl (hb hby d11_21) rfl (teq hc21).1 (by decide) (by decide) k) ?_
        show own_Go p e below K (s₁.setTop (mkF m 26 #[.val (.ref a1), .val (.ref a2), .val (.int (0 : Int32))] []))
        refine own_st (fun t k => XS.iinc X0.here hx rfl (hb hby d11_26) rfl (l' := #[.val (.ref a1), .val (.ref a2), .val (.int ((0 : Int32) + (1 : Int32)))]) rfl k) ?_
        show own_Go p e below K (s₁.setTop (mkF m 29 #[.val (.ref a1), .val (.ref a2), .val (.int ((0 : Int32) + (1 : Int32)))] []))
        rw [show ((0 : Int32) + (1 : Int32)) = (1 : Int32) from by decide]
        show own_Go p e below K (s₁.setTop (mkF m 29 #[.val (.ref a1), .val (.ref a2), .val (.int (1 : Int32))] []))
        refine own_st (fun t k => XS.goto X0.here hx rfl (pc0 := 29) (pc' := 9) rfl (hb hby d11_29) (by decide) (by decide) k) ?_
        show own_Go p e below K (s₁.setTop (mkF m 9 #[.val (.ref a1), .val (.ref a2), .val (.int (1 : Int32))] []))
        refine own_st (fun t k => XS.iloadN X0.here hx rfl (hb hby d11_9) rfl k) ?_
        show own_Go p e below K (s₁.setTop (mkF m 10 #[.val (.ref a1), .val (.ref a2), .val (.int (1 : Int32))] [(.int (1 : Int32))]))
        refine own_st (fun t k => XS.aloadN X0.here hx rfl (hb hby d11_10) rfl rfl k) ?_
        show own_Go p e below K (s₁.setTop (mkF m 11 #[.val (.ref a1), .val (.ref a2), .val (.int (1 : Int32))] [(.ref a1), (.int (1 : Int32))]))
        obtain ⟨cl9, Ar9, -, Sa9, Ma9, -, -⟩ := id P0
        refine own_st (X0.arraylength hx (own_hat e0 Ar9.1) (State.isArrayOf_alike hZ.alike Ar9.2.1) (g := (mkF m 11 #[.val (.ref a1), .val (.ref a2), .val (.int (1 : Int32))] [(.ref a1), (.int (1 : Int32))])) rfl rfl (hb hby d11_11)) ?_
        rw [len_of Sa9 Ma9]
        show own_Go p e below K (s₁.setTop (mkF m 12 #[.val (.ref a1), .val (.ref a2), .val (.int (1 : Int32))] [(.int (1 : Int32)), (.int (1 : Int32))]))
        refine own_st (fun t k => XS.icmpYes X0.here hx rfl (pc0 := 12) (pc' := 32) rfl (hb hby d11_12) rfl (flt (by decide : ¬ ((1 : Int32) < (1 : Int32)))).2.1 (by decide) (by decide) k) ?_
        show own_Go p e below K (s₁.setTop (mkF m 32 #[.val (.ref a1), .val (.ref a2), .val (.int (1 : Int32))] []))
        refine own_st (fun t k => XS.iconst X0.here hx rfl (hb hby d11_32) k) ?_
        show own_Go p e below K (s₁.setTop (mkF m 33 #[.val (.ref a1), .val (.ref a2), .val (.int (1 : Int32))] [(.int (1 : Int32))]))
        obtain ⟨fs, hr, hrun, hended, hW, hsame⟩ := X0.leave (v := some (.int (nar .boolean (1 : Int32)))) (fun h => by rw [Bd.returns] at h; cases h)
        refine ⟨_, retN X0 hx (t := .boolean) Bd.returns (by simp) (hb hby d11_33) hr, fin _ _ _ hrun hended ?_ ⟨⟨_, rfl⟩, hW, hsame.mono (by decide) (by decide)⟩⟩
        show Q11 Z a1 a2 ((1 : Int32)) ((1 : Int32)) u w kx1 kx2 h0 n0 _ s₁.heap _
        rw [e0]
        exact ⟨_, rfl, (own_B.yes (by decide) (own_q1 hu hv hc21)), N0, rfl⟩
      refine own_st (fun t k => XS.icmpNo X0.here hx rfl (hb hby d11_21) rfl (feq hc21).1 k) ?_
      show own_Go p e below K (s₁.setTop (mkF m 24 #[.val (.ref a1), .val (.ref a2), .val (.int (0 : Int32))] []))
      refine own_st (fun t k => XS.iconst X0.here hx rfl (hb hby d11_24) k) ?_
      show own_Go p e below K (s₁.setTop (mkF m 25 #[.val (.ref a1), .val (.ref a2), .val (.int (0 : Int32))] [(.int (0 : Int32))]))
      obtain ⟨fs, hr, hrun, hended, hW, hsame⟩ := X0.leave (v := some (.int (nar .boolean (0 : Int32)))) (fun h => by rw [Bd.returns] at h; cases h)
      refine ⟨_, retN X0 hx (t := .boolean) Bd.returns (by simp) (hb hby d11_25) hr, fin _ _ _ hrun hended ?_ ⟨⟨_, rfl⟩, hW, hsame.mono (by decide) (by decide)⟩⟩
      show Q11 Z a1 a2 ((1 : Int32)) ((1 : Int32)) u w kx1 kx2 h0 n0 _ s₁.heap _
      rw [e0]
      exact ⟨_, rfl, (own_B.no (by decide) fun q => hc21 (by rw [q])), N0, rfl⟩
    refine own_st (fun t k => XS.icmpYes X0.here hx rfl (pc0 := 4) (pc' := 34) rfl (hb hby d11_4) rfl (feq hc4).2 (by decide) (by decide) k) ?_
    show own_Go p e below K (s₁.setTop (mkF m 34 #[.val (.ref a1), .val (.ref a2), .unset] []))
    refine own_st (fun t k => XS.iconst X0.here hx rfl (hb hby d11_34) k) ?_
    show own_Go p e below K (s₁.setTop (mkF m 35 #[.val (.ref a1), .val (.ref a2), .unset] [(.int (0 : Int32))]))
    obtain ⟨fs, hr, hrun, hended, hW, hsame⟩ := X0.leave (v := some (.int (nar .boolean (0 : Int32)))) (fun h => by rw [Bd.returns] at h; cases h)
    refine ⟨_, retN X0 hx (t := .boolean) Bd.returns (by simp) (hb hby d11_35) hr, fin _ _ _ hrun hended ?_ ⟨⟨_, rfl⟩, hW, hsame.mono (by decide) (by decide)⟩⟩
    show Q11 Z a1 a2 ((1 : Int32)) nx2 u w kx1 kx2 h0 n0 _ s₁.heap _
    rw [e0]
    exact ⟨_, rfl, (own_B.no (by decide) (own_ln hu hv hc4)), N0, rfl⟩
  subst hs
  show own_Go p e below K (s₁.setTop (mkF m 0 #[.val (.ref a1), .val (.ref a2), .unset] []))
  refine own_st (fun t k => XS.aloadN X0.here hx rfl (hb hby d11_0) rfl rfl k) ?_
  show own_Go p e below K (s₁.setTop (mkF m 1 #[.val (.ref a1), .val (.ref a2), .unset] [(.ref a1)]))
  obtain ⟨cl10, Ar10, -, Sa10, Ma10, -, -⟩ := id P0
  refine own_st (X0.arraylength hx (own_hat e0 Ar10.1) (State.isArrayOf_alike hZ.alike Ar10.2.1) (g := (mkF m 1 #[.val (.ref a1), .val (.ref a2), .unset] [(.ref a1)])) rfl rfl (hb hby d11_1)) ?_
  rw [len_of Sa10 Ma10]
  show own_Go p e below K (s₁.setTop (mkF m 2 #[.val (.ref a1), .val (.ref a2), .unset] [(.int (2 : Int32))]))
  refine own_st (fun t k => XS.aloadN X0.here hx rfl (hb hby d11_2) rfl rfl k) ?_
  show own_Go p e below K (s₁.setTop (mkF m 3 #[.val (.ref a1), .val (.ref a2), .unset] [(.ref a2), (.int (2 : Int32))]))
  obtain ⟨cl11, Ar11, -, Sa11, Ma11, -, -⟩ := id P1
  refine own_st (X0.arraylength hx (own_hat e0 Ar11.1) (State.isArrayOf_alike hZ.alike Ar11.2.1) (g := (mkF m 3 #[.val (.ref a1), .val (.ref a2), .unset] [(.ref a2), (.int (2 : Int32))])) rfl rfl (hb hby d11_3)) ?_
  rw [len_of Sa11 Ma11]
  show own_Go p e below K (s₁.setTop (mkF m 4 #[.val (.ref a1), .val (.ref a2), .unset] [(.int nx2), (.int (2 : Int32))]))
  by_cases hc4 : (2 : Int32) = nx2
  · refine own_st (fun t k => XS.icmpNo X0.here hx rfl (hb hby d11_4) rfl (teq hc4).2 k) ?_
    show own_Go p e below K (s₁.setTop (mkF m 7 #[.val (.ref a1), .val (.ref a2), .unset] []))
    subst hc4
    refine own_st (fun t k => XS.iconst X0.here hx rfl (hb hby d11_7) k) ?_
    show own_Go p e below K (s₁.setTop (mkF m 8 #[.val (.ref a1), .val (.ref a2), .unset] [(.int (0 : Int32))]))
    refine own_st (fun t k => XS.istoreN X0.here hx rfl (hb hby d11_8) rfl (l' := #[.val (.ref a1), .val (.ref a2), .val (.int (0 : Int32))]) rfl k) ?_
    show own_Go p e below K (s₁.setTop (mkF m 9 #[.val (.ref a1), .val (.ref a2), .val (.int (0 : Int32))] []))
    refine own_st (fun t k => XS.iloadN X0.here hx rfl (hb hby d11_9) rfl k) ?_
    show own_Go p e below K (s₁.setTop (mkF m 10 #[.val (.ref a1), .val (.ref a2), .val (.int (0 : Int32))] [(.int (0 : Int32))]))
    refine own_st (fun t k => XS.aloadN X0.here hx rfl (hb hby d11_10) rfl rfl k) ?_
    show own_Go p e below K (s₁.setTop (mkF m 11 #[.val (.ref a1), .val (.ref a2), .val (.int (0 : Int32))] [(.ref a1), (.int (0 : Int32))]))
    obtain ⟨cl12, Ar12, -, Sa12, Ma12, -, -⟩ := id P0
    refine own_st (X0.arraylength hx (own_hat e0 Ar12.1) (State.isArrayOf_alike hZ.alike Ar12.2.1) (g := (mkF m 11 #[.val (.ref a1), .val (.ref a2), .val (.int (0 : Int32))] [(.ref a1), (.int (0 : Int32))])) rfl rfl (hb hby d11_11)) ?_
    rw [len_of Sa12 Ma12]
    show own_Go p e below K (s₁.setTop (mkF m 12 #[.val (.ref a1), .val (.ref a2), .val (.int (0 : Int32))] [(.int (2 : Int32)), (.int (0 : Int32))]))
    refine own_st (fun t k => XS.icmpNo X0.here hx rfl (hb hby d11_12) rfl (tlt (by decide : (0 : Int32) < (2 : Int32))).2.1 k) ?_
    show own_Go p e below K (s₁.setTop (mkF m 15 #[.val (.ref a1), .val (.ref a2), .val (.int (0 : Int32))] []))
    refine own_st (fun t k => XS.aloadN X0.here hx rfl (hb hby d11_15) rfl rfl k) ?_
    show own_Go p e below K (s₁.setTop (mkF m 16 #[.val (.ref a1), .val (.ref a2), .val (.int (0 : Int32))] [(.ref a1)]))
    refine own_st (fun t k => XS.iloadN X0.here hx rfl (hb hby d11_16) rfl k) ?_
    show own_Go p e below K (s₁.setTop (mkF m 17 #[.val (.ref a1), .val (.ref a2), .val (.int (0 : Int32))] [(.int (0 : Int32)), (.ref a1)]))
    obtain ⟨cl13, Ar13, qa13, Sa13, Ma13, Ha13, Ga13⟩ := id P0
    have hin13 : ¬ ((0 : Int32) < 0 ∨ cl13.slots.size ≤ ((0 : Int32)).toNatClampNeg) := inb_of Sa13 ⟨by decide, by decide⟩
    refine own_st (X0.baloadBytes hx (j := (0 : Int32)) (v := (.int (u.getD ((0 : Int32)).toNatClampNeg 0))) (own_hat e0 Ar13.1) (State.isArrayOf_alike hZ.alike Ar13.2.1) Ar13.2.2 hin13 (Has.at Ha13 hin13 (own_atI u _)) (g := (mkF m 17 #[.val (.ref a1), .val (.ref a2), .val (.int (0 : Int32))] [(.int (0 : Int32)), (.ref a1)])) rfl rfl (hb hby d11_17)) ?_
    show own_Go p e below K (s₁.setTop (mkF m 18 #[.val (.ref a1), .val (.ref a2), .val (.int (0 : Int32))] [(.int (u.getD ((0 : Int32)).toNatClampNeg 0))]))
    refine own_st (fun t k => XS.aloadN X0.here hx rfl (hb hby d11_18) rfl rfl k) ?_
    show own_Go p e below K (s₁.setTop (mkF m 19 #[.val (.ref a1), .val (.ref a2), .val (.int (0 : Int32))] [(.ref a2), (.int (u.getD ((0 : Int32)).toNatClampNeg 0))]))
    refine own_st (fun t k => XS.iloadN X0.here hx rfl (hb hby d11_19) rfl k) ?_
    show own_Go p e below K (s₁.setTop (mkF m 20 #[.val (.ref a1), .val (.ref a2), .val (.int (0 : Int32))] [(.int (0 : Int32)), (.ref a2), (.int (u.getD ((0 : Int32)).toNatClampNeg 0))]))
    obtain ⟨cl14, Ar14, qa14, Sa14, Ma14, Ha14, Ga14⟩ := id P1
    have hin14 : ¬ ((0 : Int32) < 0 ∨ cl14.slots.size ≤ ((0 : Int32)).toNatClampNeg) := inb_of Sa14 ⟨by decide, by decide⟩
    refine own_st (X0.baloadBytes hx (j := (0 : Int32)) (v := (.int (w.getD ((0 : Int32)).toNatClampNeg 0))) (own_hat e0 Ar14.1) (State.isArrayOf_alike hZ.alike Ar14.2.1) Ar14.2.2 hin14 (Has.at Ha14 hin14 (own_atI w _)) (g := (mkF m 20 #[.val (.ref a1), .val (.ref a2), .val (.int (0 : Int32))] [(.int (0 : Int32)), (.ref a2), (.int (u.getD ((0 : Int32)).toNatClampNeg 0))])) rfl rfl (hb hby d11_20)) ?_
    show own_Go p e below K (s₁.setTop (mkF m 21 #[.val (.ref a1), .val (.ref a2), .val (.int (0 : Int32))] [(.int (w.getD ((0 : Int32)).toNatClampNeg 0)), (.int (u.getD ((0 : Int32)).toNatClampNeg 0))]))
    by_cases hc21 : (u.getD ((0 : Int32)).toNatClampNeg 0) = (w.getD ((0 : Int32)).toNatClampNeg 0)
    · refine own_st (fun t k => XS.icmpYes X0.here hx rfl (pc0 := 21) (pc' := 26) rfl (hb hby d11_21) rfl (teq hc21).1 (by decide) (by decide) k) ?_
      show own_Go p e below K (s₁.setTop (mkF m 26 #[.val (.ref a1), .val (.ref a2), .val (.int (0 : Int32))] []))
      refine own_st (fun t k => XS.iinc X0.here hx rfl (hb hby d11_26) rfl (l' := #[.val (.ref a1), .val (.ref a2), .val (.int ((0 : Int32) + (1 : Int32)))]) rfl k) ?_
      show own_Go p e below K (s₁.setTop (mkF m 29 #[.val (.ref a1), .val (.ref a2), .val (.int ((0 : Int32) + (1 : Int32)))] []))
      rw [show ((0 : Int32) + (1 : Int32)) = (1 : Int32) from by decide]
      show own_Go p e below K (s₁.setTop (mkF m 29 #[.val (.ref a1), .val (.ref a2), .val (.int (1 : Int32))] []))
      refine own_st (fun t k => XS.goto X0.here hx rfl (pc0 := 29) (pc' := 9) rfl (hb hby d11_29) (by decide) (by decide) k) ?_
      show own_Go p e below K (s₁.setTop (mkF m 9 #[.val (.ref a1), .val (.ref a2), .val (.int (1 : Int32))] []))
      refine own_st (fun t k => XS.iloadN X0.here hx rfl (hb hby d11_9) rfl k) ?_
      show own_Go p e below K (s₁.setTop (mkF m 10 #[.val (.ref a1), .val (.ref a2), .val (.int (1 : Int32))] [(.int (1 : Int32))]))
      refine own_st (fun t k => XS.aloadN X0.here hx rfl (hb hby d11_10) rfl rfl k) ?_
      show own_Go p e below K (s₁.setTop (mkF m 11 #[.val (.ref a1), .val (.ref a2), .val (.int (1 : Int32))] [(.ref a1), (.int (1 : Int32))]))
      obtain ⟨cl15, Ar15, -, Sa15, Ma15, -, -⟩ := id P0
      refine own_st (X0.arraylength hx (own_hat e0 Ar15.1) (State.isArrayOf_alike hZ.alike Ar15.2.1) (g := (mkF m 11 #[.val (.ref a1), .val (.ref a2), .val (.int (1 : Int32))] [(.ref a1), (.int (1 : Int32))])) rfl rfl (hb hby d11_11)) ?_
      rw [len_of Sa15 Ma15]
      show own_Go p e below K (s₁.setTop (mkF m 12 #[.val (.ref a1), .val (.ref a2), .val (.int (1 : Int32))] [(.int (2 : Int32)), (.int (1 : Int32))]))
      refine own_st (fun t k => XS.icmpNo X0.here hx rfl (hb hby d11_12) rfl (tlt (by decide : (1 : Int32) < (2 : Int32))).2.1 k) ?_
      show own_Go p e below K (s₁.setTop (mkF m 15 #[.val (.ref a1), .val (.ref a2), .val (.int (1 : Int32))] []))
      refine own_st (fun t k => XS.aloadN X0.here hx rfl (hb hby d11_15) rfl rfl k) ?_
      show own_Go p e below K (s₁.setTop (mkF m 16 #[.val (.ref a1), .val (.ref a2), .val (.int (1 : Int32))] [(.ref a1)]))
      refine own_st (fun t k => XS.iloadN X0.here hx rfl (hb hby d11_16) rfl k) ?_
      show own_Go p e below K (s₁.setTop (mkF m 17 #[.val (.ref a1), .val (.ref a2), .val (.int (1 : Int32))] [(.int (1 : Int32)), (.ref a1)]))
      obtain ⟨cl16, Ar16, qa16, Sa16, Ma16, Ha16, Ga16⟩ := id P0
      have hin16 : ¬ ((1 : Int32) < 0 ∨ cl16.slots.size ≤ ((1 : Int32)).toNatClampNeg) := inb_of Sa16 ⟨by decide, by decide⟩
      refine own_st (X0.baloadBytes hx (j := (1 : Int32)) (v := (.int (u.getD ((1 : Int32)).toNatClampNeg 0))) (own_hat e0 Ar16.1) (State.isArrayOf_alike hZ.alike Ar16.2.1) Ar16.2.2 hin16 (Has.at Ha16 hin16 (own_atI u _)) (g := (mkF m 17 #[.val (.ref a1), .val (.ref a2), .val (.int (1 : Int32))] [(.int (1 : Int32)), (.ref a1)])) rfl rfl (hb hby d11_17)) ?_
      show own_Go p e below K (s₁.setTop (mkF m 18 #[.val (.ref a1), .val (.ref a2), .val (.int (1 : Int32))] [(.int (u.getD ((1 : Int32)).toNatClampNeg 0))]))
      refine own_st (fun t k => XS.aloadN X0.here hx rfl (hb hby d11_18) rfl rfl k) ?_
      show own_Go p e below K (s₁.setTop (mkF m 19 #[.val (.ref a1), .val (.ref a2), .val (.int (1 : Int32))] [(.ref a2), (.int (u.getD ((1 : Int32)).toNatClampNeg 0))]))
      refine own_st (fun t k => XS.iloadN X0.here hx rfl (hb hby d11_19) rfl k) ?_
      show own_Go p e below K (s₁.setTop (mkF m 20 #[.val (.ref a1), .val (.ref a2), .val (.int (1 : Int32))] [(.int (1 : Int32)), (.ref a2), (.int (u.getD ((1 : Int32)).toNatClampNeg 0))]))
      obtain ⟨cl17, Ar17, qa17, Sa17, Ma17, Ha17, Ga17⟩ := id P1
      have hin17 : ¬ ((1 : Int32) < 0 ∨ cl17.slots.size ≤ ((1 : Int32)).toNatClampNeg) := inb_of Sa17 ⟨by decide, by decide⟩
      refine own_st (X0.baloadBytes hx (j := (1 : Int32)) (v := (.int (w.getD ((1 : Int32)).toNatClampNeg 0))) (own_hat e0 Ar17.1) (State.isArrayOf_alike hZ.alike Ar17.2.1) Ar17.2.2 hin17 (Has.at Ha17 hin17 (own_atI w _)) (g := (mkF m 20 #[.val (.ref a1), .val (.ref a2), .val (.int (1 : Int32))] [(.int (1 : Int32)), (.ref a2), (.int (u.getD ((1 : Int32)).toNatClampNeg 0))])) rfl rfl (hb hby d11_20)) ?_
      show own_Go p e below K (s₁.setTop (mkF m 21 #[.val (.ref a1), .val (.ref a2), .val (.int (1 : Int32))] [(.int (w.getD ((1 : Int32)).toNatClampNeg 0)), (.int (u.getD ((1 : Int32)).toNatClampNeg 0))]))
      by_cases hc21_1 : (u.getD ((1 : Int32)).toNatClampNeg 0) = (w.getD ((1 : Int32)).toNatClampNeg 0)
      · refine own_st (fun t k => XS.icmpYes X0.here hx rfl (pc0 := 21) (pc' := 26) rfl (hb hby d11_21) rfl (teq hc21_1).1 (by decide) (by decide) k) ?_
        show own_Go p e below K (s₁.setTop (mkF m 26 #[.val (.ref a1), .val (.ref a2), .val (.int (1 : Int32))] []))
        refine own_st (fun t k => XS.iinc X0.here hx rfl (hb hby d11_26) rfl (l' := #[.val (.ref a1), .val (.ref a2), .val (.int ((1 : Int32) + (1 : Int32)))]) rfl k) ?_
        show own_Go p e below K (s₁.setTop (mkF m 29 #[.val (.ref a1), .val (.ref a2), .val (.int ((1 : Int32) + (1 : Int32)))] []))
        rw [show ((1 : Int32) + (1 : Int32)) = (2 : Int32) from by decide]
        show own_Go p e below K (s₁.setTop (mkF m 29 #[.val (.ref a1), .val (.ref a2), .val (.int (2 : Int32))] []))
        refine own_st (fun t k => XS.goto X0.here hx rfl (pc0 := 29) (pc' := 9) rfl (hb hby d11_29) (by decide) (by decide) k) ?_
        show own_Go p e below K (s₁.setTop (mkF m 9 #[.val (.ref a1), .val (.ref a2), .val (.int (2 : Int32))] []))
        refine own_st (fun t k => XS.iloadN X0.here hx rfl (hb hby d11_9) rfl k) ?_
        show own_Go p e below K (s₁.setTop (mkF m 10 #[.val (.ref a1), .val (.ref a2), .val (.int (2 : Int32))] [(.int (2 : Int32))]))
        refine own_st (fun t k => XS.aloadN X0.here hx rfl (hb hby d11_10) rfl rfl k) ?_
        show own_Go p e below K (s₁.setTop (mkF m 11 #[.val (.ref a1), .val (.ref a2), .val (.int (2 : Int32))] [(.ref a1), (.int (2 : Int32))]))
        obtain ⟨cl18, Ar18, -, Sa18, Ma18, -, -⟩ := id P0
        refine own_st (X0.arraylength hx (own_hat e0 Ar18.1) (State.isArrayOf_alike hZ.alike Ar18.2.1) (g := (mkF m 11 #[.val (.ref a1), .val (.ref a2), .val (.int (2 : Int32))] [(.ref a1), (.int (2 : Int32))])) rfl rfl (hb hby d11_11)) ?_
        rw [len_of Sa18 Ma18]
        show own_Go p e below K (s₁.setTop (mkF m 12 #[.val (.ref a1), .val (.ref a2), .val (.int (2 : Int32))] [(.int (2 : Int32)), (.int (2 : Int32))]))
        refine own_st (fun t k => XS.icmpYes X0.here hx rfl (pc0 := 12) (pc' := 32) rfl (hb hby d11_12) rfl (flt (by decide : ¬ ((2 : Int32) < (2 : Int32)))).2.1 (by decide) (by decide) k) ?_
        show own_Go p e below K (s₁.setTop (mkF m 32 #[.val (.ref a1), .val (.ref a2), .val (.int (2 : Int32))] []))
        refine own_st (fun t k => XS.iconst X0.here hx rfl (hb hby d11_32) k) ?_
        show own_Go p e below K (s₁.setTop (mkF m 33 #[.val (.ref a1), .val (.ref a2), .val (.int (2 : Int32))] [(.int (1 : Int32))]))
        obtain ⟨fs, hr, hrun, hended, hW, hsame⟩ := X0.leave (v := some (.int (nar .boolean (1 : Int32)))) (fun h => by rw [Bd.returns] at h; cases h)
        refine ⟨_, retN X0 hx (t := .boolean) Bd.returns (by simp) (hb hby d11_33) hr, fin _ _ _ hrun hended ?_ ⟨⟨_, rfl⟩, hW, hsame.mono (by decide) (by decide)⟩⟩
        show Q11 Z a1 a2 ((2 : Int32)) ((2 : Int32)) u w kx1 kx2 h0 n0 _ s₁.heap _
        rw [e0]
        exact ⟨_, rfl, (own_B.yes (by decide) (own_q2 hu hv hc21 hc21_1)), N0, rfl⟩
      refine own_st (fun t k => XS.icmpNo X0.here hx rfl (hb hby d11_21) rfl (feq hc21_1).1 k) ?_
      show own_Go p e below K (s₁.setTop (mkF m 24 #[.val (.ref a1), .val (.ref a2), .val (.int (1 : Int32))] []))
      refine own_st (fun t k => XS.iconst X0.here hx rfl (hb hby d11_24) k) ?_
      show own_Go p e below K (s₁.setTop (mkF m 25 #[.val (.ref a1), .val (.ref a2), .val (.int (1 : Int32))] [(.int (0 : Int32))]))
      obtain ⟨fs, hr, hrun, hended, hW, hsame⟩ := X0.leave (v := some (.int (nar .boolean (0 : Int32)))) (fun h => by rw [Bd.returns] at h; cases h)
      refine ⟨_, retN X0 hx (t := .boolean) Bd.returns (by simp) (hb hby d11_25) hr, fin _ _ _ hrun hended ?_ ⟨⟨_, rfl⟩, hW, hsame.mono (by decide) (by decide)⟩⟩
      show Q11 Z a1 a2 ((2 : Int32)) ((2 : Int32)) u w kx1 kx2 h0 n0 _ s₁.heap _
      rw [e0]
      exact ⟨_, rfl, (own_B.no (by decide) fun q => hc21_1 (by rw [q])), N0, rfl⟩
    refine own_st (fun t k => XS.icmpNo X0.here hx rfl (hb hby d11_21) rfl (feq hc21).1 k) ?_
    show own_Go p e below K (s₁.setTop (mkF m 24 #[.val (.ref a1), .val (.ref a2), .val (.int (0 : Int32))] []))
    refine own_st (fun t k => XS.iconst X0.here hx rfl (hb hby d11_24) k) ?_
    show own_Go p e below K (s₁.setTop (mkF m 25 #[.val (.ref a1), .val (.ref a2), .val (.int (0 : Int32))] [(.int (0 : Int32))]))
    obtain ⟨fs, hr, hrun, hended, hW, hsame⟩ := X0.leave (v := some (.int (nar .boolean (0 : Int32)))) (fun h => by rw [Bd.returns] at h; cases h)
    refine ⟨_, retN X0 hx (t := .boolean) Bd.returns (by simp) (hb hby d11_25) hr, fin _ _ _ hrun hended ?_ ⟨⟨_, rfl⟩, hW, hsame.mono (by decide) (by decide)⟩⟩
    show Q11 Z a1 a2 ((2 : Int32)) ((2 : Int32)) u w kx1 kx2 h0 n0 _ s₁.heap _
    rw [e0]
    exact ⟨_, rfl, (own_B.no (by decide) fun q => hc21 (by rw [q])), N0, rfl⟩
  refine own_st (fun t k => XS.icmpYes X0.here hx rfl (pc0 := 4) (pc' := 34) rfl (hb hby d11_4) rfl (feq hc4).2 (by decide) (by decide) k) ?_
  show own_Go p e below K (s₁.setTop (mkF m 34 #[.val (.ref a1), .val (.ref a2), .unset] []))
  refine own_st (fun t k => XS.iconst X0.here hx rfl (hb hby d11_34) k) ?_
  show own_Go p e below K (s₁.setTop (mkF m 35 #[.val (.ref a1), .val (.ref a2), .unset] [(.int (0 : Int32))]))
  obtain ⟨fs, hr, hrun, hended, hW, hsame⟩ := X0.leave (v := some (.int (nar .boolean (0 : Int32)))) (fun h => by rw [Bd.returns] at h; cases h)
  refine ⟨_, retN X0 hx (t := .boolean) Bd.returns (by simp) (hb hby d11_35) hr, fin _ _ _ hrun hended ?_ ⟨⟨_, rfl⟩, hW, hsame.mono (by decide) (by decide)⟩⟩
  show Q11 Z a1 a2 ((2 : Int32)) nx2 u w kx1 kx2 h0 n0 _ s₁.heap _
  rw [e0]
  exact ⟨_, rfl, (own_B.no (by decide) (own_ln hu hv hc4)), N0, rfl⟩
theorem d10_0 : decode jdk_42_method_66_code 0 = .ok (.aload_n 0, 1) := by decide +kernel
theorem d10_1 : decode jdk_42_method_66_code 1 = .ok (.aload_n 1, 1) := by decide +kernel
theorem d10_2 : decode jdk_42_method_66_code 2 = .ok (.if_acmp .ne 5, 3) := by decide +kernel
theorem d10_5 : decode jdk_42_method_66_code 5 = .ok (.iconst 1, 1) := by decide +kernel
theorem d10_6 : decode jdk_42_method_66_code 6 = .ok (.ireturn, 1) := by decide +kernel
theorem d10_7 : decode jdk_42_method_66_code 7 = .ok (.aload_n 1, 1) := by decide +kernel
theorem d10_8 : decode jdk_42_method_66_code 8 = .ok (.instanceof 10, 3) := by decide +kernel
theorem d10_11 : decode jdk_42_method_66_code 11 = .ok (.ifCond .eq 43, 3) := by decide +kernel
theorem d10_14 : decode jdk_42_method_66_code 14 = .ok (.aload_n 1, 1) := by decide +kernel
theorem d10_15 : decode jdk_42_method_66_code 15 = .ok (.checkcast 10, 3) := by decide +kernel
theorem d10_18 : decode jdk_42_method_66_code 18 = .ok (.astore_n 2, 1) := by decide +kernel
theorem d10_19 : decode jdk_42_method_66_code 19 = .ok (.getstatic 38, 3) := by decide +kernel
theorem d10_22 : decode jdk_42_method_66_code 22 = .ok (.ifCond .eq 14, 3) := by decide +kernel
theorem d10_25 : decode jdk_42_method_66_code 25 = .ok (.aload_n 0, 1) := by decide +kernel
theorem d10_26 : decode jdk_42_method_66_code 26 = .ok (.getfield 15, 3) := by decide +kernel
theorem d10_29 : decode jdk_42_method_66_code 29 = .ok (.aload_n 2, 1) := by decide +kernel
theorem d10_30 : decode jdk_42_method_66_code 30 = .ok (.getfield 15, 3) := by decide +kernel
theorem d10_33 : decode jdk_42_method_66_code 33 = .ok (.if_icmp .ne 21, 3) := by decide +kernel
theorem d10_36 : decode jdk_42_method_66_code 36 = .ok (.aload_n 0, 1) := by decide +kernel
theorem d10_37 : decode jdk_42_method_66_code 37 = .ok (.getfield 9, 3) := by decide +kernel
theorem d10_40 : decode jdk_42_method_66_code 40 = .ok (.aload_n 2, 1) := by decide +kernel
theorem d10_41 : decode jdk_42_method_66_code 41 = .ok (.getfield 9, 3) := by decide +kernel
theorem d10_44 : decode jdk_42_method_66_code 44 = .ok (.invokestatic 541, 3) := by decide +kernel
theorem d10_47 : decode jdk_42_method_66_code 47 = .ok (.ifCond .eq 7, 3) := by decide +kernel
theorem d10_50 : decode jdk_42_method_66_code 50 = .ok (.iconst 1, 1) := by decide +kernel
theorem d10_51 : decode jdk_42_method_66_code 51 = .ok (.goto 4, 3) := by decide +kernel
theorem d10_54 : decode jdk_42_method_66_code 54 = .ok (.iconst 0, 1) := by decide +kernel
theorem d10_55 : decode jdk_42_method_66_code 55 = .ok (.ireturn, 1) := by decide +kernel
theorem pn_10 : plainName "java/lang/String" = true := by first | (simp [plainName, overriddenIn]; done) | decide +kernel
theorem pd_10_9 : parseMethodDescriptor "([B[B)Z" = some ⟨[(.array .byte), (.array .byte)], some .boolean⟩ := by decide +kernel
theorem ef_10 (m : MethodId) (x0 : Addr) (x1 : Addr) : entryFrame m #[(.ref x0), (.ref x1)] 3 = mkF m 0 #[.val (.ref x0), .val (.ref x1), .unset] [] := by first | (simp [entryFrame, mkF, argsToLocals, Value.category]; done) | rfl
def Q10 (Z : State) (a1 : Addr) (a2 : Addr) (bx1 : Addr) (bx2 : Addr) (nx1 : Int32) (nx2 : Int32) (u : List Int32) (w : List Int32) (kx1 : ClassId) (kx2 : ClassId) (cs : Int32) (h0 : Heap) (n0 : Nat) (v : Option Value) (h : Heap) (L : List Loc) : Prop := ∃ (r : Int32), v = some (.int r) ∧ (own_B (u = w) r) ∧ Fr n0 L ∧ h = h0
set_option maxRecDepth 65536 in
set_option maxHeartbeats 40000000 in
theorem rm10 (l : Launch) (Z : State) (a0 : Array Value) (hw : ∀ d ∈ tables_1, d.before a0 Z = true) (ws : List Jvm.Cond) (a1 : Addr) (a2 : Addr) (bx1 : Addr) (bx2 : Addr) (nx1 : Int32) (nx2 : Int32) (u : List Int32) (w : List Int32) (kx1 : ClassId) (kx2 : ClassId) (cs : Int32) (h0 : Heap) (n0 : Nat) (Z0 : n0 ≤ h0.size) (P0 : Exa Z h0 a1 "java/lang/String") (P1 : Fld Z h0 a1 "java/lang/String" "coder" "B" (.int (0 : Int32))) (P2 : Fld Z h0 a1 "java/lang/String" "value" "[B" (.ref bx1)) (P3 : Arv Z h0 bx1 kx1 .byte nx1 (u.map Value.int) (.int (0 : Int32))) (P4 : Exa Z h0 a2 "java/lang/String") (P5 : Fld Z h0 a2 "java/lang/String" "coder" "B" (.int (0 : Int32))) (P6 : Fld Z h0 a2 "java/lang/String" "value" "[B" (.ref bx2)) (P7 : Arv Z h0 bx2 kx2 .byte nx2 (w.map Value.int) (.int (0 : Int32))) (P8 : Old Z n0 h0) (hu : nx1.toInt = (u.length : Int)) (hv : nx2.toInt = (w.length : Int)) (hn1 : nx1 = 0 ∨ nx1 = 1 ∨ nx1 = 2) (SC : Sta Z Z.heap "java/lang/String" "COMPACT_STRINGS" "Z" (.int cs)) (hcs : ¬ cs = (0 : Int32)) (hsm : a1 = a2 → u = w) :
    MetFree l (⟨"java/lang/String", "equals", "(Ljava/lang/Object;)Z"⟩ : MethodName) (head1 (Jvm.Cond.code (⟨"java/lang/String", "equals", "(Ljava/lang/Object;)Z"⟩ : MethodName) jdk_42_method_66_code 3 (some .boolean) :: ws) ({ frames := 1, cells := 0, slots := 0, locals := 14 } : Room)) (fun a U => a = #[(.ref a1), (.ref a2)] ∧ Z.Warmed39 U.vm ∧ U.heap = h0) (fun _ _ _ _ _ => True) (fun _ U o U' => ∃ v L, o = .returned v ∧ Q10 Z a1 a2 bx1 bx2 nx1 nx2 u w kx1 kx2 cs h0 n0 v U'.heap L ∧ FrameEnd U o U' L ({ frames := 1, cells := 0, slots := 0, locals := 14 } : Room).cells ({ frames := 1, cells := 0, slots := 0, locals := 14 } : Room).slots) := by
  refine MetFree.of_bodySF (plainFor_of_name pn_10) hisR ?_
  intro p e s m args below meth c s₁ Bd hml0 hP hK
  obtain ⟨rfl, hZ, hh⟩ := hP
  have hx := Bd.exec
  have hby := Bd.bytes
  have hml : c.maxLocals = 3 := hml0
  have hown : s.vm.findClass "java/lang/String" = some m.cls := findClass_of_methodNamed Bd.named
  have hnm := (name_of_methodNamed Bd.named Bd.method).1
  have X0 : Stand p l e ({ frames := 1, cells := 0, slots := 0, locals := 14 } : Room) s m #[(.ref a1), (.ref a2)] below meth c s₁ [] 0 0 := Stand.of_body Bd
  have e0 : s₁.heap = h0 := by rw [← hh, Bd.state]; rfl
  have N0 := Fr.nil n0
  suffices G0 : ∀ K : State → Prop, (∀ (n : State) (v : Option Value) (L : List Loc), n.status = .running → Ended n below (.returned v) → Q10 Z a1 a2 bx1 bx2 nx1 nx2 u w kx1 kx2 cs h0 n0 v n.heap L → FrameEnd s (.returned v) n L ({ frames := 1, cells := 0, slots := 0, locals := 14 } : Room).cells ({ frames := 1, cells := 0, slots := 0, locals := 14 } : Room).slots → K n) → own_Go p e below K (s₁.setTop (mkF m 0 #[.val (.ref a1), .val (.ref a2), .unset] [])) by
    obtain ⟨t, st, o, a, b, v, L, e1, q, fe⟩ := G0 (fun n => ∃ o, n.status = .running ∧ Ended n below o ∧ ∃ v L, o = .returned v ∧ Q10 Z a1 a2 bx1 bx2 nx1 nx2 u w kx1 kx2 cs h0 n0 v n.heap L ∧ FrameEnd s o n L ({ frames := 1, cells := 0, slots := 0, locals := 14 } : Room).cells ({ frames := 1, cells := 0, slots := 0, locals := 14 } : Room).slots) (fun n v L a b q f => ⟨_, a, b, v, L, rfl, q, f⟩)
    exact ⟨t, o, castTop (ef_10 m a1 a2) st, a, b, v, L, e1, q, fe⟩
  intro K fin
  show own_Go p e below K (s₁.setTop (mkF m 0 #[.val (.ref a1), .val (.ref a2), .unset] []))
  refine own_st (fun t k => XS.aloadN X0.here hx rfl (hb hby d10_0) rfl rfl k) ?_
  show own_Go p e below K (s₁.setTop (mkF m 1 #[.val (.ref a1), .val (.ref a2), .unset] [(.ref a1)]))
  refine own_st (fun t k => XS.aloadN X0.here hx rfl (hb hby d10_1) rfl rfl k) ?_
  show own_Go p e below K (s₁.setTop (mkF m 2 #[.val (.ref a1), .val (.ref a2), .unset] [(.ref a2), (.ref a1)]))
  rcases (Decidable.em (a1 = a2)) with rfl | ne_a1_a2
  · show own_Go p e below K (s₁.setTop (mkF m 2 #[.val (.ref a1), .val (.ref a1), .unset] [(.ref a1), (.ref a1)]))
    refine own_st (fun t k => Jvm.RoadKit.acmp (g := (mkF m 2 #[.val (.ref a1), .val (.ref a1), .unset] [(.ref a1), (.ref a1)])) X0 hx rfl rfl rfl (pc0 := 2) (pc' := 5) (same := true) rfl (hb hby d10_2) rfl (decide_eq_true rfl) (by decide) (by decide) k) ?_
    show own_Go p e below K (s₁.setTop (mkF m 5 #[.val (.ref a1), .val (.ref a1), .unset] []))
    refine own_st (fun t k => XS.iconst X0.here hx rfl (hb hby d10_5) k) ?_
    show own_Go p e below K (s₁.setTop (mkF m 6 #[.val (.ref a1), .val (.ref a1), .unset] [(.int (1 : Int32))]))
    obtain ⟨fs, hr, hrun, hended, hW, hsame⟩ := X0.leave (v := some (.int (nar .boolean (1 : Int32)))) (fun h => by rw [Bd.returns] at h; cases h)
    refine ⟨_, retN X0 hx (t := .boolean) Bd.returns (by simp) (hb hby d10_6) hr, fin _ _ _ hrun hended ?_ ⟨⟨_, rfl⟩, hW, hsame.mono (by decide) (by decide)⟩⟩
    show Q10 Z a1 (a1) bx1 bx2 nx1 nx2 u w kx1 kx2 cs h0 n0 _ s₁.heap _
    rw [e0]
    exact ⟨_, rfl, (own_B.yes (by decide) (hsm rfl)), N0, rfl⟩
  skip
  show own_Go p e below K (s₁.setTop (mkF m 2 #[.val (.ref a1), .val (.ref a2), .unset] [(.ref a2), (.ref a1)]))
  refine own_st (fun t k => Jvm.RoadKit.acmp (g := (mkF m 2 #[.val (.ref a1), .val (.ref a2), .unset] [(.ref a2), (.ref a1)])) X0 hx rfl rfl rfl (pc0 := 2) (pc' := 7) (same := false) rfl (hb hby d10_2) rfl (decide_eq_false fun q => ne_a1_a2 (Value.ref.inj q)) (by decide) (by decide) k) ?_
  show own_Go p e below K (s₁.setTop (mkF m 7 #[.val (.ref a1), .val (.ref a2), .unset] []))
  refine own_st (fun t k => XS.aloadN X0.here hx rfl (hb hby d10_7) rfl rfl k) ?_
  show own_Go p e below K (s₁.setTop (mkF m 8 #[.val (.ref a1), .val (.ref a2), .unset] [(.ref a2)]))
  obtain ⟨T1, X1, e1, st1⟩ := instY X0 hx hZ hown (hw _ (List.mem_of_getElem? (i := 59) rfl)) e0 (Ins.self P4) (g := (mkF m 8 #[.val (.ref a1), .val (.ref a2), .unset] [(.ref a2)])) rfl rfl (hb hby d10_8)
  refine own_st st1 ?_
  show own_Go p e below K (T1.setTop (mkF m 11 #[.val (.ref a1), .val (.ref a2), .unset] [(.int (1 : Int32))]))
  try clear st1
  refine own_st (fun t k => XS.ifNo X1.here hx rfl (hb hby d10_11) rfl ((if0 _ _).trans (feq (by decide : ¬ ((1 : Int32) = (0 : Int32)))).1) k) ?_
  show own_Go p e below K (T1.setTop (mkF m 14 #[.val (.ref a1), .val (.ref a2), .unset] []))
  refine own_st (fun t k => XS.aloadN X1.here hx rfl (hb hby d10_14) rfl rfl k) ?_
  show own_Go p e below K (T1.setTop (mkF m 15 #[.val (.ref a1), .val (.ref a2), .unset] [(.ref a2)]))
  obtain ⟨T2, X2, e2, st2⟩ := castY X1 hx hZ hown (hw _ (List.mem_of_getElem? (i := 59) rfl)) e1 (Ins.self P4) (g := (mkF m 15 #[.val (.ref a1), .val (.ref a2), .unset] [(.ref a2)])) rfl rfl (hb hby d10_15)
  refine own_st st2 ?_
  show own_Go p e below K (T2.setTop (mkF m 18 #[.val (.ref a1), .val (.ref a2), .unset] [(.ref a2)]))
  try clear X1 e1 st2
  refine own_st (fun t k => XS.astoreN X2.here hx rfl (hb hby d10_18) rfl rfl (l' := #[.val (.ref a1), .val (.ref a2), .val (.ref a2)]) rfl k) ?_
  show own_Go p e below K (T2.setTop (mkF m 19 #[.val (.ref a1), .val (.ref a2), .val (.ref a2)] []))
  obtain ⟨T3, X3, e3, st3⟩ := getS2 X2 hx hZ hown (host := "") (Or.inl (hw _ (List.mem_of_getElem? (i := 60) rfl))) Via.refl e2 (SC.ext P8.2) (g := (mkF m 19 #[.val (.ref a1), .val (.ref a2), .val (.ref a2)] [])) rfl (hb hby d10_19)
  refine own_st st3 ?_
  show own_Go p e below K (T3.setTop (mkF m 22 #[.val (.ref a1), .val (.ref a2), .val (.ref a2)] [(.int cs)]))
  try clear X2 e2 st3
  refine own_st (fun t k => XS.ifNo X3.here hx rfl (hb hby d10_22) rfl ((if0 _ _).trans (feq (hcs : ¬ (cs = (0 : Int32)))).1) k) ?_
  show own_Go p e below K (T3.setTop (mkF m 25 #[.val (.ref a1), .val (.ref a2), .val (.ref a2)] []))
  refine own_st (fun t k => XS.aloadN X3.here hx rfl (hb hby d10_25) rfl rfl k) ?_
  show own_Go p e below K (T3.setTop (mkF m 26 #[.val (.ref a1), .val (.ref a2), .val (.ref a2)] [(.ref a1)]))
  obtain ⟨T4, X4, e4, st4⟩ := getF X3 hx hZ hown (host := "") (Or.inl (hw _ (List.mem_of_getElem? (i := 35) rfl))) Via.refl e3 P1 (g := (mkF m 26 #[.val (.ref a1), .val (.ref a2), .val (.ref a2)] [(.ref a1)])) rfl rfl (hb hby d10_26)
  refine own_st st4 ?_
  show own_Go p e below K (T4.setTop (mkF m 29 #[.val (.ref a1), .val (.ref a2), .val (.ref a2)] [(.int (0 : Int32))]))
  try clear X3 e3 st4
  refine own_st (fun t k => XS.aloadN X4.here hx rfl (hb hby d10_29) rfl rfl k) ?_
  show own_Go p e below K (T4.setTop (mkF m 30 #[.val (.ref a1), .val (.ref a2), .val (.ref a2)] [(.ref a2), (.int (0 : Int32))]))
  obtain ⟨T5, X5, e5, st5⟩ := getF X4 hx hZ hown (host := "") (Or.inl (hw _ (List.mem_of_getElem? (i := 35) rfl))) Via.refl e4 P5 (g := (mkF m 30 #[.val (.ref a1), .val (.ref a2), .val (.ref a2)] [(.ref a2), (.int (0 : Int32))])) rfl rfl (hb hby d10_30)
  refine own_st st5 ?_
  show own_Go p e below K (T5.setTop (mkF m 33 #[.val (.ref a1), .val (.ref a2), .val (.ref a2)] [(.int (0 : Int32)), (.int (0 : Int32))]))
  try clear X4 e4 st5
  refine own_st (fun t k => XS.icmpNo X5.here hx rfl (hb hby d10_33) rfl (teq (by decide : (0 : Int32) = (0 : Int32))).2 k) ?_
  show own_Go p e below K (T5.setTop (mkF m 36 #[.val (.ref a1), .val (.ref a2), .val (.ref a2)] []))
  refine own_st (fun t k => XS.aloadN X5.here hx rfl (hb hby d10_36) rfl rfl k) ?_
  show own_Go p e below K (T5.setTop (mkF m 37 #[.val (.ref a1), .val (.ref a2), .val (.ref a2)] [(.ref a1)]))
  obtain ⟨T6, X6, e6, st6⟩ := getF X5 hx hZ hown (host := "") (Or.inl (hw _ (List.mem_of_getElem? (i := 34) rfl))) Via.refl e5 P2 (g := (mkF m 37 #[.val (.ref a1), .val (.ref a2), .val (.ref a2)] [(.ref a1)])) rfl rfl (hb hby d10_37)
  refine own_st st6 ?_
  show own_Go p e below K (T6.setTop (mkF m 40 #[.val (.ref a1), .val (.ref a2), .val (.ref a2)] [(.ref bx1)]))
  try clear X5 e5 st6
  refine own_st (fun t k => XS.aloadN X6.here hx rfl (hb hby d10_40) rfl rfl k) ?_
  show own_Go p e below K (T6.setTop (mkF m 41 #[.val (.ref a1), .val (.ref a2), .val (.ref a2)] [(.ref a2), (.ref bx1)]))
  obtain ⟨T7, X7, e7, st7⟩ := getF X6 hx hZ hown (host := "") (Or.inl (hw _ (List.mem_of_getElem? (i := 34) rfl))) Via.refl e6 P6 (g := (mkF m 41 #[.val (.ref a1), .val (.ref a2), .val (.ref a2)] [(.ref a2), (.ref bx1)])) rfl rfl (hb hby d10_41)
  refine own_st st7 ?_
  show own_Go p e below K (T7.setTop (mkF m 44 #[.val (.ref a1), .val (.ref a2), .val (.ref a2)] [(.ref bx2), (.ref bx1)]))
  try clear X6 e6 st7
  obtain ⟨_, _, ⟨T8, L8, k8, n8⟩, -, X8, ⟨Lc8, hQ8, l8, y8, z8⟩, st8⟩ := Jvm.LawKit.callS X7 hx (y := (⟨"java/lang/StringLatin1", "equals", "([B[B)Z"⟩ : MethodName)) hown (mvT hZ (hw _ (List.mem_of_getElem? (i := 61) rfl))) (mvT hZ (hw _ (List.mem_of_getElem? (i := 62) rfl))) (mvT hZ (hw _ (List.mem_of_getElem? (i := 63) rfl))) (mvT hZ (hw _ (List.mem_of_getElem? (i := 64) rfl))) (by decide) (backOf (W := 0) (rm11 l Z a0 hw [] bx1 bx2 (nx1) (nx2) (u) (w) (kx1) (kx2) h0 n0 Z0 P3 P7 (by assumption) (by assumption) (by assumption)) hZ (hw _ (List.mem_of_getElem? (i := 64) rfl)) (hw _ (List.mem_of_getElem? (i := 63) rfl)) (by decide) (by decide)) (g := (mkF m 44 #[.val (.ref a1), .val (.ref a2), .val (.ref a2)] [(.ref bx2), (.ref bx1)])) rfl (by rw [hml]; rfl) (argsL := [(.ref bx1), (.ref bx2)]) (rest := []) (lenOf pd_10_9 rfl) rfl (by show 2 * 0 + _ ≤ _; exact Nat.le_of_eq rfl) (hb hby d10_44) (fun _ _ => ⟨rfl, e7, (by decide : 0 + 0 ≤ _), (by decide : 0 + 0 ≤ _)⟩)
  dsimp only [Pt.U, Pt.locs, Pt.cells, Pt.slots] at X8 l8 y8 z8 st8 hQ8
  obtain ⟨r8, rfl, hr8, N8q, e8⟩ := hQ8
  have N8 : Fr n0 L8 := by rw [l8]; exact Fr.app N0 N8q
  clear l8
  have y8' : k8 = 0 := y8
  have z8' : n8 = 0 := z8
  clear y8 z8
  subst y8' z8'
  refine own_st st8 ?_
  show own_Go p e below K (T8.setTop (mkF m 47 #[.val (.ref a1), .val (.ref a2), .val (.ref a2)] [(.int r8)]))
  try clear X7 e7 st8 N8q
  by_cases hc47 : r8 = (0 : Int32)
  · refine own_st (fun t k => XS.ifYes X8.here hx rfl (pc0 := 47) (pc' := 54) rfl (hb hby d10_47) rfl ((if0 _ _).trans (teq hc47).1) (by decide) (by decide) k) ?_
    show own_Go p e below K (T8.setTop (mkF m 54 #[.val (.ref a1), .val (.ref a2), .val (.ref a2)] []))
    refine own_st (fun t k => XS.iconst X8.here hx rfl (hb hby d10_54) k) ?_
    show own_Go p e below K (T8.setTop (mkF m 55 #[.val (.ref a1), .val (.ref a2), .val (.ref a2)] [(.int (0 : Int32))]))
    obtain ⟨fs, hr, hrun, hended, hW, hsame⟩ := X8.leave (v := some (.int (nar .boolean (0 : Int32)))) (fun h => by rw [Bd.returns] at h; cases h)
    refine ⟨_, retN X8 hx (t := .boolean) Bd.returns (by simp) (hb hby d10_55) hr, fin _ _ _ hrun hended ?_ ⟨⟨_, rfl⟩, hW, hsame.mono (by decide) (by decide)⟩⟩
    show Q10 Z a1 a2 bx1 bx2 nx1 nx2 u w kx1 kx2 cs h0 n0 _ T8.heap _
    rw [e8]
    exact ⟨_, rfl, (own_B.no (by decide) (hr8.fails hc47)), N8, rfl⟩
  refine own_st (fun t k => XS.ifNo X8.here hx rfl (hb hby d10_47) rfl ((if0 _ _).trans (feq hc47).1) k) ?_
  show own_Go p e below K (T8.setTop (mkF m 50 #[.val (.ref a1), .val (.ref a2), .val (.ref a2)] []))
  refine own_st (fun t k => XS.iconst X8.here hx rfl (hb hby d10_50) k) ?_
  show own_Go p e below K (T8.setTop (mkF m 51 #[.val (.ref a1), .val (.ref a2), .val (.ref a2)] [(.int (1 : Int32))]))
  refine own_st (fun t k => XS.goto X8.here hx rfl (pc0 := 51) (pc' := 55) rfl (hb hby d10_51) (by decide) (by decide) k) ?_
  show own_Go p e below K (T8.setTop (mkF m 55 #[.val (.ref a1), .val (.ref a2), .val (.ref a2)] [(.int (1 : Int32))]))
  obtain ⟨fs, hr, hrun, hended, hW, hsame⟩ := X8.leave (v := some (.int (nar .boolean (1 : Int32)))) (fun h => by rw [Bd.returns] at h; cases h)
  refine ⟨_, retN X8 hx (t := .boolean) Bd.returns (by simp) (hb hby d10_55) hr, fin _ _ _ hrun hended ?_ ⟨⟨_, rfl⟩, hW, hsame.mono (by decide) (by decide)⟩⟩
  show Q10 Z a1 a2 bx1 bx2 nx1 nx2 u w kx1 kx2 cs h0 n0 _ T8.heap _
  rw [e8]
  exact ⟨_, rfl, (own_B.yes (by decide) (hr8.holds hc47)), N8, rfl⟩
theorem d9_0 : decode prog_18_method_4_code 0 = .ok (.aload_n 1, 1) := by decide +kernel
theorem d9_1 : decode prog_18_method_4_code 1 = .ok (.instanceof 8, 3) := by decide +kernel
theorem d9_4 : decode prog_18_method_4_code 4 = .ok (.ifCond .eq 40, 3) := by decide +kernel
theorem d9_7 : decode prog_18_method_4_code 7 = .ok (.aload_n 1, 1) := by decide +kernel
theorem d9_8 : decode prog_18_method_4_code 8 = .ok (.checkcast 8, 3) := by decide +kernel
theorem d9_11 : decode prog_18_method_4_code 11 = .ok (.astore_n 2, 1) := by decide +kernel
theorem d9_12 : decode prog_18_method_4_code 12 = .ok (.aload_n 0, 1) := by decide +kernel
theorem d9_13 : decode prog_18_method_4_code 13 = .ok (.getfield 7, 3) := by decide +kernel
theorem d9_16 : decode prog_18_method_4_code 16 = .ok (.aload_n 2, 1) := by decide +kernel
theorem d9_17 : decode prog_18_method_4_code 17 = .ok (.getfield 7, 3) := by decide +kernel
theorem d9_20 : decode prog_18_method_4_code 20 = .ok (.invokevirtual 16, 3) := by decide +kernel
theorem d9_23 : decode prog_18_method_4_code 23 = .ok (.ifCond .eq 21, 3) := by decide +kernel
theorem d9_26 : decode prog_18_method_4_code 26 = .ok (.aload_n 0, 1) := by decide +kernel
theorem d9_27 : decode prog_18_method_4_code 27 = .ok (.getfield 13, 3) := by decide +kernel
theorem d9_30 : decode prog_18_method_4_code 30 = .ok (.aload_n 2, 1) := by decide +kernel
theorem d9_31 : decode prog_18_method_4_code 31 = .ok (.getfield 13, 3) := by decide +kernel
theorem d9_34 : decode prog_18_method_4_code 34 = .ok (.invokevirtual 16, 3) := by decide +kernel
theorem d9_37 : decode prog_18_method_4_code 37 = .ok (.ifCond .eq 7, 3) := by decide +kernel
theorem d9_40 : decode prog_18_method_4_code 40 = .ok (.iconst 1, 1) := by decide +kernel
theorem d9_41 : decode prog_18_method_4_code 41 = .ok (.goto 4, 3) := by decide +kernel
theorem d9_44 : decode prog_18_method_4_code 44 = .ok (.iconst 0, 1) := by decide +kernel
theorem d9_45 : decode prog_18_method_4_code 45 = .ok (.ireturn, 1) := by decide +kernel
theorem pn_9 : plainName "com/example/coverbill/coverbill/book/Identifier" = true := by first | (simp [plainName, overriddenIn]; done) | decide +kernel
theorem pd_9_8 : parseMethodDescriptor "(Ljava/lang/Object;)Z" = some ⟨[(.object "java/lang/Object")], some .boolean⟩ := by decide +kernel
theorem ef_9 (m : MethodId) (x0 : Addr) (x1 : Addr) : entryFrame m #[(.ref x0), (.ref x1)] 3 = mkF m 0 #[.val (.ref x0), .val (.ref x1), .unset] [] := by first | (simp [entryFrame, mkF, argsToLocals, Value.category]; done) | rfl
def Q9 (Z : State) (a1 : Addr) (a2 : Addr) (s1 : Addr) (s2 : Addr) (s3 : Addr) (s4 : Addr) (bx1 : Addr) (kx1 : ClassId) (nx1 : Int32) (u1 : List Int32) (bx2 : Addr) (kx2 : ClassId) (nx2 : Int32) (u2 : List Int32) (bx3 : Addr) (kx3 : ClassId) (nx3 : Int32) (u3 : List Int32) (bx4 : Addr) (kx4 : ClassId) (nx4 : Int32) (u4 : List Int32) (cs : Int32) (h0 : Heap) (n0 : Nat) (v : Option Value) (h : Heap) (L : List Loc) : Prop := ∃ (r : Int32), v = some (.int r) ∧ (own_B (u1 = u3 ∧ u2 = u4) r) ∧ Fr n0 L ∧ h = h0
set_option maxRecDepth 65536 in
set_option maxHeartbeats 40000000 in
theorem rm9 (l : Launch) (Z : State) (a0 : Array Value) (hw : ∀ d ∈ tables_1, d.before a0 Z = true) (ws : List Jvm.Cond) (a1 : Addr) (a2 : Addr) (s1 : Addr) (s2 : Addr) (s3 : Addr) (s4 : Addr) (bx1 : Addr) (kx1 : ClassId) (nx1 : Int32) (u1 : List Int32) (bx2 : Addr) (kx2 : ClassId) (nx2 : Int32) (u2 : List Int32) (bx3 : Addr) (kx3 : ClassId) (nx3 : Int32) (u3 : List Int32) (bx4 : Addr) (kx4 : ClassId) (nx4 : Int32) (u4 : List Int32) (cs : Int32) (h0 : Heap) (n0 : Nat) (Z0 : n0 ≤ h0.size) (P0 : Exa Z h0 a1 "com/example/coverbill/coverbill/book/Identifier") (P1 : Fld Z h0 a1 "com/example/coverbill/coverbill/book/Identifier" "type" "Ljava/lang/String;" (.ref s1)) (P2 : Fld Z h0 a1 "com/example/coverbill/coverbill/book/Identifier" "value" "Ljava/lang/String;" (.ref s2)) (P3 : Exa Z h0 a2 "com/example/coverbill/coverbill/book/Identifier") (P4 : Fld Z h0 a2 "com/example/coverbill/coverbill/book/Identifier" "type" "Ljava/lang/String;" (.ref s3)) (P5 : Fld Z h0 a2 "com/example/coverbill/coverbill/book/Identifier" "value" "Ljava/lang/String;" (.ref s4)) (P6 : Exa Z h0 s1 "java/lang/String") (P7 : Fld Z h0 s1 "java/lang/String" "coder" "B" (.int (0 : Int32))) (P8 : Fld Z h0 s1 "java/lang/String" "value" "[B" (.ref bx1)) (P9 : Arv Z h0 bx1 kx1 .byte nx1 (u1.map Value.int) (.int (0 : Int32))) (P10 : Exa Z h0 s2 "java/lang/String") (P11 : Fld Z h0 s2 "java/lang/String" "coder" "B" (.int (0 : Int32))) (P12 : Fld Z h0 s2 "java/lang/String" "value" "[B" (.ref bx2)) (P13 : Arv Z h0 bx2 kx2 .byte nx2 (u2.map Value.int) (.int (0 : Int32))) (P14 : Exa Z h0 s3 "java/lang/String") (P15 : Fld Z h0 s3 "java/lang/String" "coder" "B" (.int (0 : Int32))) (P16 : Fld Z h0 s3 "java/lang/String" "value" "[B" (.ref bx3)) (P17 : Arv Z h0 bx3 kx3 .byte nx3 (u3.map Value.int) (.int (0 : Int32))) (P18 : Exa Z h0 s4 "java/lang/String") (P19 : Fld Z h0 s4 "java/lang/String" "coder" "B" (.int (0 : Int32))) (P20 : Fld Z h0 s4 "java/lang/String" "value" "[B" (.ref bx4)) (P21 : Arv Z h0 bx4 kx4 .byte nx4 (u4.map Value.int) (.int (0 : Int32))) (P22 : Old Z n0 h0) (hl1 : nx1.toInt = (u1.length : Int)) (hl2 : nx2.toInt = (u2.length : Int)) (hl3 : nx3.toInt = (u3.length : Int)) (hl4 : nx4.toInt = (u4.length : Int)) (hm1 : nx1 = 0 ∨ nx1 = 1 ∨ nx1 = 2) (hm2 : nx2 = 0 ∨ nx2 = 1 ∨ nx2 = 2) (hm3 : nx3 = 0 ∨ nx3 = 1 ∨ nx3 = 2) (hm4 : nx4 = 0 ∨ nx4 = 1 ∨ nx4 = 2) (SC : Sta Z Z.heap "java/lang/String" "COMPACT_STRINGS" "Z" (.int cs)) (hcs : ¬ cs = (0 : Int32)) (hsa : s1 = s3 → u1 = u3) (hsb : s2 = s4 → u2 = u4) :
    MetFree l (⟨"com/example/coverbill/coverbill/book/Identifier", "equals", "(Ljava/lang/Object;)Z"⟩ : MethodName) (head1 (Jvm.Cond.code (⟨"com/example/coverbill/coverbill/book/Identifier", "equals", "(Ljava/lang/Object;)Z"⟩ : MethodName) prog_18_method_4_code 3 (some .boolean) :: ws) ({ frames := 2, cells := 0, slots := 0, locals := 28 } : Room)) (fun a U => a = #[(.ref a1), (.ref a2)] ∧ Z.Warmed39 U.vm ∧ U.heap = h0) (fun _ _ _ _ _ => True) (fun _ U o U' => ∃ v L, o = .returned v ∧ Q9 Z a1 a2 s1 s2 s3 s4 bx1 kx1 nx1 u1 bx2 kx2 nx2 u2 bx3 kx3 nx3 u3 bx4 kx4 nx4 u4 cs h0 n0 v U'.heap L ∧ FrameEnd U o U' L ({ frames := 2, cells := 0, slots := 0, locals := 28 } : Room).cells ({ frames := 2, cells := 0, slots := 0, locals := 28 } : Room).slots) := by
  refine MetFree.of_bodySF (plainFor_of_name pn_9) hisR ?_
  intro p e s m args below meth c s₁ Bd hml0 hP hK
  obtain ⟨rfl, hZ, hh⟩ := hP
  have hx := Bd.exec
  have hby := Bd.bytes
  have hml : c.maxLocals = 3 := hml0
  have hown : s.vm.findClass "com/example/coverbill/coverbill/book/Identifier" = some m.cls := findClass_of_methodNamed Bd.named
  have hnm := (name_of_methodNamed Bd.named Bd.method).1
  have X0 : Stand p l e ({ frames := 2, cells := 0, slots := 0, locals := 28 } : Room) s m #[(.ref a1), (.ref a2)] below meth c s₁ [] 0 0 := Stand.of_body Bd
  have e0 : s₁.heap = h0 := by rw [← hh, Bd.state]; rfl
  have N0 := Fr.nil n0
  suffices G0 : ∀ K : State → Prop, (∀ (n : State) (v : Option Value) (L : List Loc), n.status = .running → Ended n below (.returned v) → Q9 Z a1 a2 s1 s2 s3 s4 bx1 kx1 nx1 u1 bx2 kx2 nx2 u2 bx3 kx3 nx3 u3 bx4 kx4 nx4 u4 cs h0 n0 v n.heap L → FrameEnd s (.returned v) n L ({ frames := 2, cells := 0, slots := 0, locals := 28 } : Room).cells ({ frames := 2, cells := 0, slots := 0, locals := 28 } : Room).slots → K n) → own_Go p e below K (s₁.setTop (mkF m 0 #[.val (.ref a1), .val (.ref a2), .unset] [])) by
    obtain ⟨t, st, o, a, b, v, L, e1, q, fe⟩ := G0 (fun n => ∃ o, n.status = .running ∧ Ended n below o ∧ ∃ v L, o = .returned v ∧ Q9 Z a1 a2 s1 s2 s3 s4 bx1 kx1 nx1 u1 bx2 kx2 nx2 u2 bx3 kx3 nx3 u3 bx4 kx4 nx4 u4 cs h0 n0 v n.heap L ∧ FrameEnd s o n L ({ frames := 2, cells := 0, slots := 0, locals := 28 } : Room).cells ({ frames := 2, cells := 0, slots := 0, locals := 28 } : Room).slots) (fun n v L a b q f => ⟨_, a, b, v, L, rfl, q, f⟩)
    exact ⟨t, o, castTop (ef_9 m a1 a2) st, a, b, v, L, e1, q, fe⟩
  intro K fin
  show own_Go p e below K (s₁.setTop (mkF m 0 #[.val (.ref a1), .val (.ref a2), .unset] []))
  refine own_st (fun t k => XS.aloadN X0.here hx rfl (hb hby d9_0) rfl rfl k) ?_
  show own_Go p e below K (s₁.setTop (mkF m 1 #[.val (.ref a1), .val (.ref a2), .unset] [(.ref a2)]))
  obtain ⟨T1, X1, e1, st1⟩ := instY X0 hx hZ hown (hw _ (List.mem_of_getElem? (i := 52) rfl)) e0 (Ins.self P3) (g := (mkF m 1 #[.val (.ref a1), .val (.ref a2), .unset] [(.ref a2)])) rfl rfl (hb hby d9_1)
  refine own_st st1 ?_
  show own_Go p e below K (T1.setTop (mkF m 4 #[.val (.ref a1), .val (.ref a2), .unset] [(.int (1 : Int32))]))
  try clear st1
  refine own_st (fun t k => XS.ifNo X1.here hx rfl (hb hby d9_4) rfl ((if0 _ _).trans (feq (by decide : ¬ ((1 : Int32) = (0 : Int32)))).1) k) ?_
  show own_Go p e below K (T1.setTop (mkF m 7 #[.val (.ref a1), .val (.ref a2), .unset] []))
  refine own_st (fun t k => XS.aloadN X1.here hx rfl (hb hby d9_7) rfl rfl k) ?_
  show own_Go p e below K (T1.setTop (mkF m 8 #[.val (.ref a1), .val (.ref a2), .unset] [(.ref a2)]))
  obtain ⟨T2, X2, e2, st2⟩ := castY X1 hx hZ hown (hw _ (List.mem_of_getElem? (i := 52) rfl)) e1 (Ins.self P3) (g := (mkF m 8 #[.val (.ref a1), .val (.ref a2), .unset] [(.ref a2)])) rfl rfl (hb hby d9_8)
  refine own_st st2 ?_
  show own_Go p e below K (T2.setTop (mkF m 11 #[.val (.ref a1), .val (.ref a2), .unset] [(.ref a2)]))
  try clear X1 e1 st2
  refine own_st (fun t k => XS.astoreN X2.here hx rfl (hb hby d9_11) rfl rfl (l' := #[.val (.ref a1), .val (.ref a2), .val (.ref a2)]) rfl k) ?_
  show own_Go p e below K (T2.setTop (mkF m 12 #[.val (.ref a1), .val (.ref a2), .val (.ref a2)] []))
  refine own_st (fun t k => XS.aloadN X2.here hx rfl (hb hby d9_12) rfl rfl k) ?_
  show own_Go p e below K (T2.setTop (mkF m 13 #[.val (.ref a1), .val (.ref a2), .val (.ref a2)] [(.ref a1)]))
  obtain ⟨T3, X3, e3, st3⟩ := getF X2 hx hZ hown (host := "") (Or.inl (hw _ (List.mem_of_getElem? (i := 40) rfl))) Via.refl e2 P1 (g := (mkF m 13 #[.val (.ref a1), .val (.ref a2), .val (.ref a2)] [(.ref a1)])) rfl rfl (hb hby d9_13)
  refine own_st st3 ?_
  show own_Go p e below K (T3.setTop (mkF m 16 #[.val (.ref a1), .val (.ref a2), .val (.ref a2)] [(.ref s1)]))
  try clear X2 e2 st3
  refine own_st (fun t k => XS.aloadN X3.here hx rfl (hb hby d9_16) rfl rfl k) ?_
  show own_Go p e below K (T3.setTop (mkF m 17 #[.val (.ref a1), .val (.ref a2), .val (.ref a2)] [(.ref a2), (.ref s1)]))
  obtain ⟨T4, X4, e4, st4⟩ := getF X3 hx hZ hown (host := "") (Or.inl (hw _ (List.mem_of_getElem? (i := 40) rfl))) Via.refl e3 P4 (g := (mkF m 17 #[.val (.ref a1), .val (.ref a2), .val (.ref a2)] [(.ref a2), (.ref s1)])) rfl rfl (hb hby d9_17)
  refine own_st st4 ?_
  show own_Go p e below K (T4.setTop (mkF m 20 #[.val (.ref a1), .val (.ref a2), .val (.ref a2)] [(.ref s3), (.ref s1)]))
  try clear X3 e3 st4
  obtain ⟨cq5, kq5, qv5a, qv5b, qv5c⟩ := isOf hZ e4 P6
  obtain ⟨_, _, ⟨T5, L5, k5, n5⟩, -, X5, ⟨Lc5, hQ5, l5, y5, z5⟩, st5⟩ := X4.virtualBack hx (y := (⟨"java/lang/String", "equals", "(Ljava/lang/Object;)Z"⟩ : MethodName)) (z := (⟨"java/lang/String", "equals", "(Ljava/lang/Object;)Z"⟩ : MethodName)) hown (mvT hZ (hw _ (List.mem_of_getElem? (i := 54) rfl))) (mvT hZ (hw _ (List.mem_of_getElem? (i := 55) rfl))) (notFace_of_selects (args := #[]) (mvT hZ (hw _ (List.mem_of_getElem? (i := 57) rfl)))) (mvT hZ (hw _ (List.mem_of_getElem? (i := 57) rfl))) (mvT hZ (hw _ (List.mem_of_getElem? (i := 56) rfl))) (by decide) (backOf (W := 0) (rm10 l Z a0 hw [] s1 s3 (bx1) (bx3) (nx1) (nx3) (u1) (u3) (kx1) (kx3) (cs) h0 n0 Z0 P6 P7 P8 P9 P14 P15 P16 P17 P22 hl1 hl3 hm1 (by assumption) (by assumption) hsa) hZ (hw _ (List.mem_of_getElem? (i := 58) rfl)) (hw _ (List.mem_of_getElem? (i := 16) rfl)) (by decide) (by decide)) qv5a qv5c (g := (mkF m 20 #[.val (.ref a1), .val (.ref a2), .val (.ref a2)] [(.ref s3), (.ref s1)])) rfl (by rw [hml]; rfl) (Steps.refl _) (argsL := [(.ref s3)]) (rest := []) (lenOf pd_9_8 rfl) rfl (by show 2 * 0 + _ ≤ _; exact Nat.le_of_eq rfl) (hb hby d9_20) (fun _ _ => ⟨rfl, e4, (by decide : 0 + 0 ≤ _), (by decide : 0 + 0 ≤ _)⟩)
  dsimp only [Pt.U, Pt.locs, Pt.cells, Pt.slots] at X5 l5 y5 z5 st5 hQ5
  obtain ⟨r5, rfl, hr5, N5q, e5⟩ := hQ5
  have N5 : Fr n0 L5 := by rw [l5]; exact Fr.app N0 N5q
  clear l5
  have y5' : k5 = 0 := y5
  have z5' : n5 = 0 := z5
  clear y5 z5
  subst y5' z5'
  refine own_tr st5 ?_
  show own_Go p e below K (T5.setTop (mkF m 23 #[.val (.ref a1), .val (.ref a2), .val (.ref a2)] [(.int r5)]))
  try clear X4 e4 st5 N5q
  by_cases hc23 : r5 = (0 : Int32)
  · refine own_st (fun t k => XS.ifYes X5.here hx rfl (pc0 := 23) (pc' := 44) rfl (hb hby d9_23) rfl ((if0 _ _).trans (teq hc23).1) (by decide) (by decide) k) ?_
    show own_Go p e below K (T5.setTop (mkF m 44 #[.val (.ref a1), .val (.ref a2), .val (.ref a2)] []))
    refine own_st (fun t k => XS.iconst X5.here hx rfl (hb hby d9_44) k) ?_
    show own_Go p e below K (T5.setTop (mkF m 45 #[.val (.ref a1), .val (.ref a2), .val (.ref a2)] [(.int (0 : Int32))]))
    obtain ⟨fs, hr, hrun, hended, hW, hsame⟩ := X5.leave (v := some (.int (nar .boolean (0 : Int32)))) (fun h => by rw [Bd.returns] at h; cases h)
    refine ⟨_, retN X5 hx (t := .boolean) Bd.returns (by simp) (hb hby d9_45) hr, fin _ _ _ hrun hended ?_ ⟨⟨_, rfl⟩, hW, hsame.mono (by decide) (by decide)⟩⟩
    show Q9 Z a1 a2 s1 s2 s3 s4 bx1 kx1 nx1 u1 bx2 kx2 nx2 u2 bx3 kx3 nx3 u3 bx4 kx4 nx4 u4 cs h0 n0 _ T5.heap _
    rw [e5]
    exact ⟨_, rfl, (own_B.no (by decide) fun q => hr5.fails hc23 q.1), N5, rfl⟩
  refine own_st (fun t k => XS.ifNo X5.here hx rfl (hb hby d9_23) rfl ((if0 _ _).trans (feq hc23).1) k) ?_
  show own_Go p e below K (T5.setTop (mkF m 26 #[.val (.ref a1), .val (.ref a2), .val (.ref a2)] []))
  refine own_st (fun t k => XS.aloadN X5.here hx rfl (hb hby d9_26) rfl rfl k) ?_
  show own_Go p e below K (T5.setTop (mkF m 27 #[.val (.ref a1), .val (.ref a2), .val (.ref a2)] [(.ref a1)]))
  obtain ⟨T6, X6, e6, st6⟩ := getF X5 hx hZ hown (host := "") (Or.inl (hw _ (List.mem_of_getElem? (i := 42) rfl))) Via.refl e5 P2 (g := (mkF m 27 #[.val (.ref a1), .val (.ref a2), .val (.ref a2)] [(.ref a1)])) rfl rfl (hb hby d9_27)
  refine own_st st6 ?_
  show own_Go p e below K (T6.setTop (mkF m 30 #[.val (.ref a1), .val (.ref a2), .val (.ref a2)] [(.ref s2)]))
  try clear X5 e5 st6
  refine own_st (fun t k => XS.aloadN X6.here hx rfl (hb hby d9_30) rfl rfl k) ?_
  show own_Go p e below K (T6.setTop (mkF m 31 #[.val (.ref a1), .val (.ref a2), .val (.ref a2)] [(.ref a2), (.ref s2)]))
  obtain ⟨T7, X7, e7, st7⟩ := getF X6 hx hZ hown (host := "") (Or.inl (hw _ (List.mem_of_getElem? (i := 42) rfl))) Via.refl e6 P5 (g := (mkF m 31 #[.val (.ref a1), .val (.ref a2), .val (.ref a2)] [(.ref a2), (.ref s2)])) rfl rfl (hb hby d9_31)
  refine own_st st7 ?_
  show own_Go p e below K (T7.setTop (mkF m 34 #[.val (.ref a1), .val (.ref a2), .val (.ref a2)] [(.ref s4), (.ref s2)]))
  try clear X6 e6 st7
  obtain ⟨cq8, kq8, qv8a, qv8b, qv8c⟩ := isOf hZ e7 P10
  obtain ⟨_, _, ⟨T8, L8, k8, n8⟩, -, X8, ⟨Lc8, hQ8, l8, y8, z8⟩, st8⟩ := X7.virtualBack hx (y := (⟨"java/lang/String", "equals", "(Ljava/lang/Object;)Z"⟩ : MethodName)) (z := (⟨"java/lang/String", "equals", "(Ljava/lang/Object;)Z"⟩ : MethodName)) hown (mvT hZ (hw _ (List.mem_of_getElem? (i := 54) rfl))) (mvT hZ (hw _ (List.mem_of_getElem? (i := 55) rfl))) (notFace_of_selects (args := #[]) (mvT hZ (hw _ (List.mem_of_getElem? (i := 57) rfl)))) (mvT hZ (hw _ (List.mem_of_getElem? (i := 57) rfl))) (mvT hZ (hw _ (List.mem_of_getElem? (i := 56) rfl))) (by decide) (backOf (W := 0) (rm10 l Z a0 hw [] s2 s4 (bx2) (bx4) (nx2) (nx4) (u2) (u4) (kx2) (kx4) (cs) h0 n0 Z0 P10 P11 P12 P13 P18 P19 P20 P21 P22 hl2 hl4 hm2 (by assumption) (by assumption) hsb) hZ (hw _ (List.mem_of_getElem? (i := 58) rfl)) (hw _ (List.mem_of_getElem? (i := 16) rfl)) (by decide) (by decide)) qv8a qv8c (g := (mkF m 34 #[.val (.ref a1), .val (.ref a2), .val (.ref a2)] [(.ref s4), (.ref s2)])) rfl (by rw [hml]; rfl) (Steps.refl _) (argsL := [(.ref s4)]) (rest := []) (lenOf pd_9_8 rfl) rfl (by show 2 * 0 + _ ≤ _; exact Nat.le_of_eq rfl) (hb hby d9_34) (fun _ _ => ⟨rfl, e7, (by decide : 0 + 0 ≤ _), (by decide : 0 + 0 ≤ _)⟩)
  dsimp only [Pt.U, Pt.locs, Pt.cells, Pt.slots] at X8 l8 y8 z8 st8 hQ8
  obtain ⟨r8, rfl, hr8, N8q, e8⟩ := hQ8
  have N8 : Fr n0 L8 := by rw [l8]; exact Fr.app N5 N8q
  clear l8
  have y8' : k8 = 0 := y8
  have z8' : n8 = 0 := z8
  clear y8 z8
  subst y8' z8'
  refine own_tr st8 ?_
  show own_Go p e below K (T8.setTop (mkF m 37 #[.val (.ref a1), .val (.ref a2), .val (.ref a2)] [(.int r8)]))
  try clear X7 e7 st8 N5 N8q
  by_cases hc37 : r8 = (0 : Int32)
  · refine own_st (fun t k => XS.ifYes X8.here hx rfl (pc0 := 37) (pc' := 44) rfl (hb hby d9_37) rfl ((if0 _ _).trans (teq hc37).1) (by decide) (by decide) k) ?_
    show own_Go p e below K (T8.setTop (mkF m 44 #[.val (.ref a1), .val (.ref a2), .val (.ref a2)] []))
    refine own_st (fun t k => XS.iconst X8.here hx rfl (hb hby d9_44) k) ?_
    show own_Go p e below K (T8.setTop (mkF m 45 #[.val (.ref a1), .val (.ref a2), .val (.ref a2)] [(.int (0 : Int32))]))
    obtain ⟨fs, hr, hrun, hended, hW, hsame⟩ := X8.leave (v := some (.int (nar .boolean (0 : Int32)))) (fun h => by rw [Bd.returns] at h; cases h)
    refine ⟨_, retN X8 hx (t := .boolean) Bd.returns (by simp) (hb hby d9_45) hr, fin _ _ _ hrun hended ?_ ⟨⟨_, rfl⟩, hW, hsame.mono (by decide) (by decide)⟩⟩
    show Q9 Z a1 a2 s1 s2 s3 s4 bx1 kx1 nx1 u1 bx2 kx2 nx2 u2 bx3 kx3 nx3 u3 bx4 kx4 nx4 u4 cs h0 n0 _ T8.heap _
    rw [e8]
    exact ⟨_, rfl, (own_B.no (by decide) fun q => hr8.fails hc37 q.2), N8, rfl⟩
  refine own_st (fun t k => XS.ifNo X8.here hx rfl (hb hby d9_37) rfl ((if0 _ _).trans (feq hc37).1) k) ?_
  show own_Go p e below K (T8.setTop (mkF m 40 #[.val (.ref a1), .val (.ref a2), .val (.ref a2)] []))
  refine own_st (fun t k => XS.iconst X8.here hx rfl (hb hby d9_40) k) ?_
  show own_Go p e below K (T8.setTop (mkF m 41 #[.val (.ref a1), .val (.ref a2), .val (.ref a2)] [(.int (1 : Int32))]))
  refine own_st (fun t k => XS.goto X8.here hx rfl (pc0 := 41) (pc' := 45) rfl (hb hby d9_41) (by decide) (by decide) k) ?_
  show own_Go p e below K (T8.setTop (mkF m 45 #[.val (.ref a1), .val (.ref a2), .val (.ref a2)] [(.int (1 : Int32))]))
  obtain ⟨fs, hr, hrun, hended, hW, hsame⟩ := X8.leave (v := some (.int (nar .boolean (1 : Int32)))) (fun h => by rw [Bd.returns] at h; cases h)
  refine ⟨_, retN X8 hx (t := .boolean) Bd.returns (by simp) (hb hby d9_45) hr, fin _ _ _ hrun hended ?_ ⟨⟨_, rfl⟩, hW, hsame.mono (by decide) (by decide)⟩⟩
  show Q9 Z a1 a2 s1 s2 s3 s4 bx1 kx1 nx1 u1 bx2 kx2 nx2 u2 bx3 kx3 nx3 u3 bx4 kx4 nx4 u4 cs h0 n0 _ T8.heap _
  rw [e8]
  exact ⟨_, rfl, (own_B.yes (by decide) ⟨hr5.holds hc23, hr8.holds hc37⟩), N8, rfl⟩
theorem ef_9n (m : MethodId) (x0 : Addr) : entryFrame m #[(.ref x0), .null] 3 = mkF m 0 #[.val (.ref x0), .val .null, .unset] [] := by first | (simp [entryFrame, mkF, argsToLocals, Value.category]; done) | rfl
def Q9n (Z : State) (a1 : Addr) (h0 : Heap) (n0 : Nat) (v : Option Value) (h : Heap) (L : List Loc) : Prop := ∃ (r : Int32), v = some (.int r) ∧ (r = 0) ∧ Fr n0 L ∧ h = h0
set_option maxRecDepth 65536 in
set_option maxHeartbeats 40000000 in
theorem rm9n (l : Launch) (Z : State) (a0 : Array Value) (hw : ∀ d ∈ tables_1, d.before a0 Z = true) (ws : List Jvm.Cond) (a1 : Addr) (h0 : Heap) (n0 : Nat) (Z0 : n0 ≤ h0.size)  :
    MetFree l (⟨"com/example/coverbill/coverbill/book/Identifier", "equals", "(Ljava/lang/Object;)Z"⟩ : MethodName) (head1 (Jvm.Cond.code (⟨"com/example/coverbill/coverbill/book/Identifier", "equals", "(Ljava/lang/Object;)Z"⟩ : MethodName) prog_18_method_4_code 3 (some .boolean) :: ws) ({ frames := 0, cells := 0, slots := 0, locals := 0 } : Room)) (fun a U => a = #[(.ref a1), .null] ∧ Z.Warmed39 U.vm ∧ U.heap = h0) (fun _ _ _ _ _ => True) (fun _ U o U' => ∃ v L, o = .returned v ∧ Q9n Z a1 h0 n0 v U'.heap L ∧ FrameEnd U o U' L ({ frames := 0, cells := 0, slots := 0, locals := 0 } : Room).cells ({ frames := 0, cells := 0, slots := 0, locals := 0 } : Room).slots) := by
  refine MetFree.of_bodySF (plainFor_of_name pn_9) hisR ?_
  intro p e s m args below meth c s₁ Bd hml0 hP hK
  obtain ⟨rfl, hZ, hh⟩ := hP
  have hx := Bd.exec
  have hby := Bd.bytes
  have hml : c.maxLocals = 3 := hml0
  have hown : s.vm.findClass "com/example/coverbill/coverbill/book/Identifier" = some m.cls := findClass_of_methodNamed Bd.named
  have hnm := (name_of_methodNamed Bd.named Bd.method).1
  have X0 : Stand p l e ({ frames := 0, cells := 0, slots := 0, locals := 0 } : Room) s m #[(.ref a1), .null] below meth c s₁ [] 0 0 := Stand.of_body Bd
  have e0 : s₁.heap = h0 := by rw [← hh, Bd.state]; rfl
  have N0 := Fr.nil n0
  suffices G0 : ∀ K : State → Prop, (∀ (n : State) (v : Option Value) (L : List Loc), n.status = .running → Ended n below (.returned v) → Q9n Z a1 h0 n0 v n.heap L → FrameEnd s (.returned v) n L ({ frames := 0, cells := 0, slots := 0, locals := 0 } : Room).cells ({ frames := 0, cells := 0, slots := 0, locals := 0 } : Room).slots → K n) → own_Go p e below K (s₁.setTop (mkF m 0 #[.val (.ref a1), .val .null, .unset] [])) by
    obtain ⟨t, st, o, a, b, v, L, e1, q, fe⟩ := G0 (fun n => ∃ o, n.status = .running ∧ Ended n below o ∧ ∃ v L, o = .returned v ∧ Q9n Z a1 h0 n0 v n.heap L ∧ FrameEnd s o n L ({ frames := 0, cells := 0, slots := 0, locals := 0 } : Room).cells ({ frames := 0, cells := 0, slots := 0, locals := 0 } : Room).slots) (fun n v L a b q f => ⟨_, a, b, v, L, rfl, q, f⟩)
    exact ⟨t, o, castTop (ef_9n m a1) st, a, b, v, L, e1, q, fe⟩
  intro K fin
  show own_Go p e below K (s₁.setTop (mkF m 0 #[.val (.ref a1), .val .null, .unset] []))
  refine own_st (fun t k => XS.aloadN X0.here hx rfl (hb hby d9_0) rfl rfl k) ?_
  show own_Go p e below K (s₁.setTop (mkF m 1 #[.val (.ref a1), .val .null, .unset] [.null]))
  refine own_st (X0.instanceofNull hx (g := (mkF m 1 #[.val (.ref a1), .val .null, .unset] [.null])) rfl rfl (hb hby d9_1)) ?_
  show own_Go p e below K (s₁.setTop (mkF m 4 #[.val (.ref a1), .val .null, .unset] [(.int (0 : Int32))]))
  refine own_st (fun t k => XS.ifYes X0.here hx rfl (pc0 := 4) (pc' := 44) rfl (hb hby d9_4) rfl ((if0 _ _).trans (teq (by decide : (0 : Int32) = (0 : Int32))).1) (by decide) (by decide) k) ?_
  show own_Go p e below K (s₁.setTop (mkF m 44 #[.val (.ref a1), .val .null, .unset] []))
  refine own_st (fun t k => XS.iconst X0.here hx rfl (hb hby d9_44) k) ?_
  show own_Go p e below K (s₁.setTop (mkF m 45 #[.val (.ref a1), .val .null, .unset] [(.int (0 : Int32))]))
  obtain ⟨fs, hr, hrun, hended, hW, hsame⟩ := X0.leave (v := some (.int (nar .boolean (0 : Int32)))) (fun h => by rw [Bd.returns] at h; cases h)
  refine ⟨_, retN X0 hx (t := .boolean) Bd.returns (by simp) (hb hby d9_45) hr, fin _ _ _ hrun hended ?_ ⟨⟨_, rfl⟩, hW, hsame.mono (by decide) (by decide)⟩⟩
  show Q9n Z a1 h0 n0 _ s₁.heap _
  rw [e0]
  exact ⟨_, rfl, rfl, N0, rfl⟩
theorem ef_9s (m : MethodId) (x0 : Addr) (x1 : Addr) : entryFrame m #[(.ref x0), (.ref x1)] 3 = mkF m 0 #[.val (.ref x0), .val (.ref x1), .unset] [] := by first | (simp [entryFrame, mkF, argsToLocals, Value.category]; done) | rfl
def Q9s (Z : State) (a1 : Addr) (a2 : Addr) (h0 : Heap) (n0 : Nat) (v : Option Value) (h : Heap) (L : List Loc) : Prop := ∃ (r : Int32), v = some (.int r) ∧ (r = 0) ∧ Fr n0 L ∧ h = h0
set_option maxRecDepth 65536 in
set_option maxHeartbeats 40000000 in
theorem rm9s (l : Launch) (Z : State) (a0 : Array Value) (hw : ∀ d ∈ tables_1, d.before a0 Z = true) (ws : List Jvm.Cond) (a1 : Addr) (a2 : Addr) (h0 : Heap) (n0 : Nat) (Z0 : n0 ≤ h0.size) (P0 : Exa Z h0 a2 "java/lang/String") :
    MetFree l (⟨"com/example/coverbill/coverbill/book/Identifier", "equals", "(Ljava/lang/Object;)Z"⟩ : MethodName) (head1 (Jvm.Cond.code (⟨"com/example/coverbill/coverbill/book/Identifier", "equals", "(Ljava/lang/Object;)Z"⟩ : MethodName) prog_18_method_4_code 3 (some .boolean) :: ws) ({ frames := 0, cells := 0, slots := 0, locals := 0 } : Room)) (fun a U => a = #[(.ref a1), (.ref a2)] ∧ Z.Warmed39 U.vm ∧ U.heap = h0) (fun _ _ _ _ _ => True) (fun _ U o U' => ∃ v L, o = .returned v ∧ Q9s Z a1 a2 h0 n0 v U'.heap L ∧ FrameEnd U o U' L ({ frames := 0, cells := 0, slots := 0, locals := 0 } : Room).cells ({ frames := 0, cells := 0, slots := 0, locals := 0 } : Room).slots) := by
  refine MetFree.of_bodySF (plainFor_of_name pn_9) hisR ?_
  intro p e s m args below meth c s₁ Bd hml0 hP hK
  obtain ⟨rfl, hZ, hh⟩ := hP
  have hx := Bd.exec
  have hby := Bd.bytes
  have hml : c.maxLocals = 3 := hml0
  have hown : s.vm.findClass "com/example/coverbill/coverbill/book/Identifier" = some m.cls := findClass_of_methodNamed Bd.named
  have hnm := (name_of_methodNamed Bd.named Bd.method).1
  have X0 : Stand p l e ({ frames := 0, cells := 0, slots := 0, locals := 0 } : Room) s m #[(.ref a1), (.ref a2)] below meth c s₁ [] 0 0 := Stand.of_body Bd
  have e0 : s₁.heap = h0 := by rw [← hh, Bd.state]; rfl
  have N0 := Fr.nil n0
  suffices G0 : ∀ K : State → Prop, (∀ (n : State) (v : Option Value) (L : List Loc), n.status = .running → Ended n below (.returned v) → Q9s Z a1 a2 h0 n0 v n.heap L → FrameEnd s (.returned v) n L ({ frames := 0, cells := 0, slots := 0, locals := 0 } : Room).cells ({ frames := 0, cells := 0, slots := 0, locals := 0 } : Room).slots → K n) → own_Go p e below K (s₁.setTop (mkF m 0 #[.val (.ref a1), .val (.ref a2), .unset] [])) by
    obtain ⟨t, st, o, a, b, v, L, e1, q, fe⟩ := G0 (fun n => ∃ o, n.status = .running ∧ Ended n below o ∧ ∃ v L, o = .returned v ∧ Q9s Z a1 a2 h0 n0 v n.heap L ∧ FrameEnd s o n L ({ frames := 0, cells := 0, slots := 0, locals := 0 } : Room).cells ({ frames := 0, cells := 0, slots := 0, locals := 0 } : Room).slots) (fun n v L a b q f => ⟨_, a, b, v, L, rfl, q, f⟩)
    exact ⟨t, o, castTop (ef_9s m a1 a2) st, a, b, v, L, e1, q, fe⟩
  intro K fin
  show own_Go p e below K (s₁.setTop (mkF m 0 #[.val (.ref a1), .val (.ref a2), .unset] []))
  refine own_st (fun t k => XS.aloadN X0.here hx rfl (hb hby d9_0) rfl rfl k) ?_
  show own_Go p e below K (s₁.setTop (mkF m 1 #[.val (.ref a1), .val (.ref a2), .unset] [(.ref a2)]))
  obtain ⟨T1, X1, e1, st1⟩ := instNo X0 hx hZ hown (hw _ (List.mem_of_getElem? (i := 52) rfl)) e0 P0 (own_nosub hw) (g := (mkF m 1 #[.val (.ref a1), .val (.ref a2), .unset] [(.ref a2)])) rfl rfl (hb hby d9_1)
  refine own_st st1 ?_
  show own_Go p e below K (T1.setTop (mkF m 4 #[.val (.ref a1), .val (.ref a2), .unset] [(.int (0 : Int32))]))
  try clear st1
  refine own_st (fun t k => XS.ifYes X1.here hx rfl (pc0 := 4) (pc' := 44) rfl (hb hby d9_4) rfl ((if0 _ _).trans (teq (by decide : (0 : Int32) = (0 : Int32))).1) (by decide) (by decide) k) ?_
  show own_Go p e below K (T1.setTop (mkF m 44 #[.val (.ref a1), .val (.ref a2), .unset] []))
  refine own_st (fun t k => XS.iconst X1.here hx rfl (hb hby d9_44) k) ?_
  show own_Go p e below K (T1.setTop (mkF m 45 #[.val (.ref a1), .val (.ref a2), .unset] [(.int (0 : Int32))]))
  obtain ⟨fs, hr, hrun, hended, hW, hsame⟩ := X1.leave (v := some (.int (nar .boolean (0 : Int32)))) (fun h => by rw [Bd.returns] at h; cases h)
  refine ⟨_, retN X1 hx (t := .boolean) Bd.returns (by simp) (hb hby d9_45) hr, fin _ _ _ hrun hended ?_ ⟨⟨_, rfl⟩, hW, hsame.mono (by decide) (by decide)⟩⟩
  show Q9s Z a1 a2 h0 n0 _ T1.heap _
  rw [e1]
  exact ⟨_, rfl, rfl, N0, rfl⟩
theorem pn_0 : plainName "com/example/coverbill/coverbill/book/IdentifierEqualsPinLaw" = true := by first | (simp [plainName, overriddenIn]; done) | decide +kernel
theorem pd_0_0 : parseMethodDescriptor "(I)Ljava/lang/String;" = some ⟨[.int], some (.object "java/lang/String")⟩ := by decide +kernel
theorem pd_0_6 : parseMethodDescriptor "(Ljava/lang/String;Ljava/lang/String;)V" = some ⟨[(.object "java/lang/String"), (.object "java/lang/String")], none⟩ := by decide +kernel
theorem pd_0_8 : parseMethodDescriptor "(Ljava/lang/Object;)Z" = some ⟨[(.object "java/lang/Object")], some .boolean⟩ := by decide +kernel
theorem pd_0_7 : parseMethodDescriptor "(II)Z" = some ⟨[.int, .int], some .boolean⟩ := by decide +kernel
theorem ef_0 (m : MethodId) (x0 : Int32) (x1 : Int32) (x2 : Int32) (x3 : Int32) (x4 : Int32) : entryFrame m #[(.int x0), (.int x1), (.int x2), (.int x3), (.int x4)] maxLocals = mkF m 0 #[.val (.int x0), .val (.int x1), .val (.int x2), .val (.int x3), .val (.int x4), .unset, .unset, .unset, .unset, .unset, .unset] [] := by first | (simp [entryFrame, mkF, argsToLocals, Value.category, maxLocals]; done) | rfl
def Q0 (Z : State) (q1 : Int32) (q2 : Int32) (q3 : Int32) (q4 : Int32) (q5 : Int32) (cs : Int32) (h0 : Heap) (n0 : Nat) (v : Option Value) (h : Heap) (vm : Vm) (L : List Loc) : Prop := v = some (.int 1) ∧ Fr n0 L
set_option maxRecDepth 65536 in
set_option maxHeartbeats 40000000 in
theorem rm0 (l : Launch) (Z : State) (a0 : Array Value) (hw : ∀ d ∈ tables_1, d.before a0 Z = true) (ws : List Jvm.Cond) (q1 : Int32) (q2 : Int32) (q3 : Int32) (q4 : Int32) (q5 : Int32) (cs : Int32) (h0 : Heap) (n0 : Nat) (Z0 : n0 ≤ h0.size) (P0 : Old Z n0 h0) (SC : Sta Z Z.heap "java/lang/String" "COMPACT_STRINGS" "Z" (.int cs)) (hcs : ¬ cs = (0 : Int32)) (hcH : Jvm.Lit.constHeld Z "java/lang/String" 7) (hcW : Jvm.Lit.compactW.before a0 Z = true) :
    MetFree l x (head1 (Jvm.Cond.code x code maxLocals ret :: ws) room_1) (fun a U => a = #[(.int q1), (.int q2), (.int q3), (.int q4), (.int q5)] ∧ Z.Warmed39 U.vm ∧ U.heap = h0 ∧ own_W Z U.vm h0) (fun _ _ _ _ _ => True) (fun _ U o U' => ∃ v L, o = .returned v ∧ Q0 Z q1 q2 q3 q4 q5 cs h0 n0 v U'.heap U'.vm L ∧ ReturnedEndW U o U' L 22 44) := by
  refine MetFree.of_bodySF (plainFor_of_name pn_0) hisR ?_
  intro p e s m args below meth c s₁ Bd hml0 hP hK
  obtain ⟨rfl, hZ, hh, hW0⟩ := hP
  have hx := Bd.exec
  have hby := Bd.bytes
  have hml : c.maxLocals = 11 := hml0
  have hown : s.vm.findClass "com/example/coverbill/coverbill/book/IdentifierEqualsPinLaw" = some m.cls := findClass_of_methodNamed Bd.named
  have hnm := (name_of_methodNamed Bd.named Bd.method).1
  have X0 : Stand p l e room_1 s m #[(.int q1), (.int q2), (.int q3), (.int q4), (.int q5)] below meth c s₁ [] 0 0 := Stand.of_body Bd
  have e0 : s₁.heap = h0 := by rw [← hh, Bd.state]; rfl
  have N0 := Fr.nil n0
  have hS0 := own_s0 s
  have hG0 : own_G 0 h0 := Nat.zero_le _
  suffices G0 : ∀ K : State → Prop, (∀ (n : State) (v : Option Value) (L : List Loc), n.status = .running → Ended n below (.returned v) → Q0 Z q1 q2 q3 q4 q5 cs h0 n0 v n.heap n.vm L → ReturnedEndW s (.returned v) n L 22 44 → K n) → own_Go p e below K (s₁.setTop (mkF m 0 #[.val (.int q1), .val (.int q2), .val (.int q3), .val (.int q4), .val (.int q5), .unset, .unset, .unset, .unset, .unset, .unset] [])) by
    obtain ⟨t, st, o, a, b, v, L, e1, q, fe⟩ := G0 (fun n => ∃ o, n.status = .running ∧ Ended n below o ∧ ∃ v L, o = .returned v ∧ Q0 Z q1 q2 q3 q4 q5 cs h0 n0 v n.heap n.vm L ∧ ReturnedEndW s o n L 22 44) (fun n v L a b q f => ⟨_, a, b, v, L, rfl, q, f⟩)
    exact ⟨t, o, castTop (ef_0 m q1 q2 q3 q4 q5) st, a, b, v, L, e1, q, fe⟩
  intro K fin
  show own_Go p e below K (s₁.setTop (mkF m 0 #[.val (.int q1), .val (.int q2), .val (.int q3), .val (.int q4), .val (.int q5), .unset, .unset, .unset, .unset, .unset, .unset] []))
  refine own_st (fun t k => XS.iload X0.here hx rfl (hb hby at_0) rfl k) ?_
  show own_Go p e below K (s₁.setTop (mkF m 2 #[.val (.int q1), .val (.int q2), .val (.int q3), .val (.int q4), .val (.int q5), .unset, .unset, .unset, .unset, .unset, .unset] [(.int q5)]))
  refine own_st (fun t k => XS.iconst X0.here hx rfl (hb hby at_2) k) ?_
  show own_Go p e below K (s₁.setTop (mkF m 3 #[.val (.int q1), .val (.int q2), .val (.int q3), .val (.int q4), .val (.int q5), .unset, .unset, .unset, .unset, .unset, .unset] [(.int (1 : Int32)), (.int q5)]))
  refine own_st (fun t k => XS.iand X0.here hx rfl (hb hby at_3) rfl k) ?_
  show own_Go p e below K (s₁.setTop (mkF m 4 #[.val (.int q1), .val (.int q2), .val (.int q3), .val (.int q4), .val (.int q5), .unset, .unset, .unset, .unset, .unset, .unset] [(.int (q5 &&& (1 : Int32)))]))
  generalize hm1 : (q5 &&& (1 : Int32)) = m1
  show own_Go p e below K (s₁.setTop (mkF m 4 #[.val (.int q1), .val (.int q2), .val (.int q3), .val (.int q4), .val (.int q5), .unset, .unset, .unset, .unset, .unset, .unset] [(.int m1)]))
  have J12 : ∀ (T' : State) (locs' : List Loc) (X' : Stand p l e room_1 s m #[(.int q1), (.int q2), (.int q3), (.int q4), (.int q5)] below meth c T' locs' 0 0) (e' : T'.heap = h0) (N' : Fr n0 locs') (tt0 : Int32), (True) → own_Go p e below K (T'.setTop (mkF m 12 #[.val (.int q1), .val (.int q2), .val (.int q3), .val (.int q4), .val (.int q5), .unset, .unset, .unset, .unset, .unset, .unset] [(.int tt0)])) := by
    intro T1 locs1 X1 e1 N1 tt0 hj1
    refine own_st (fun t k => XS.istore X1.here hx rfl (hb hby at_12) rfl (l' := #[.val (.int q1), .val (.int q2), .val (.int q3), .val (.int q4), .val (.int q5), .val (.int tt0), .unset, .unset, .unset, .unset, .unset]) rfl k) ?_
    show own_Go p e below K (T1.setTop (mkF m 14 #[.val (.int q1), .val (.int q2), .val (.int q3), .val (.int q4), .val (.int q5), .val (.int tt0), .unset, .unset, .unset, .unset, .unset] []))
    refine own_st (fun t k => XS.iload X1.here hx rfl (hb hby at_14) rfl k) ?_
    show own_Go p e below K (T1.setTop (mkF m 16 #[.val (.int q1), .val (.int q2), .val (.int q3), .val (.int q4), .val (.int q5), .val (.int tt0), .unset, .unset, .unset, .unset, .unset] [(.int q5)]))
    refine own_st (fun t k => XS.iconst X1.here hx rfl (hb hby at_16) k) ?_
    show own_Go p e below K (T1.setTop (mkF m 17 #[.val (.int q1), .val (.int q2), .val (.int q3), .val (.int q4), .val (.int q5), .val (.int tt0), .unset, .unset, .unset, .unset, .unset] [(.int (2 : Int32)), (.int q5)]))
    refine own_st (fun t k => XS.iand X1.here hx rfl (hb hby at_17) rfl k) ?_
    show own_Go p e below K (T1.setTop (mkF m 18 #[.val (.int q1), .val (.int q2), .val (.int q3), .val (.int q4), .val (.int q5), .val (.int tt0), .unset, .unset, .unset, .unset, .unset] [(.int (q5 &&& (2 : Int32)))]))
    generalize hm2 : (q5 &&& (2 : Int32)) = m2
    show own_Go p e below K (T1.setTop (mkF m 18 #[.val (.int q1), .val (.int q2), .val (.int q3), .val (.int q4), .val (.int q5), .val (.int tt0), .unset, .unset, .unset, .unset, .unset] [(.int m2)]))
    have J26 : ∀ (T' : State) (locs' : List Loc) (X' : Stand p l e room_1 s m #[(.int q1), (.int q2), (.int q3), (.int q4), (.int q5)] below meth c T' locs' 0 0) (e' : T'.heap = h0) (N' : Fr n0 locs') (vv0 : Int32), (True) → own_Go p e below K (T'.setTop (mkF m 26 #[.val (.int q1), .val (.int q2), .val (.int q3), .val (.int q4), .val (.int q5), .val (.int tt0), .unset, .unset, .unset, .unset, .unset] [(.int vv0)])) := by
      intro T2 locs2 X2 e2 N2 vv0 hj2
      refine own_st (fun t k => XS.istore X2.here hx rfl (hb hby at_26) rfl (l' := #[.val (.int q1), .val (.int q2), .val (.int q3), .val (.int q4), .val (.int q5), .val (.int tt0), .val (.int vv0), .unset, .unset, .unset, .unset]) rfl k) ?_
      show own_Go p e below K (T2.setTop (mkF m 28 #[.val (.int q1), .val (.int q2), .val (.int q3), .val (.int q4), .val (.int q5), .val (.int tt0), .val (.int vv0), .unset, .unset, .unset, .unset] []))
      obtain ⟨T3, h3, X3, e3, E3, A3, D3, -, st3⟩ := newO X2 hx hZ hown (hw _ (List.mem_of_getElem? (i := 0) rfl)) (hw _ (List.mem_of_getElem? (i := 1) rfl)) (hw _ (List.mem_of_getElem? (i := 2) rfl)) e2 (g := (mkF m 28 #[.val (.int q1), .val (.int q2), .val (.int q3), .val (.int q4), .val (.int q5), .val (.int tt0), .val (.int vv0), .unset, .unset, .unset, .unset] [])) rfl (hb hby at_28) (by decide) (by decide)
      obtain ⟨b3, g3⟩ : ∃ z, z = h0.size := ⟨_, rfl⟩
      rw [← g3] at A3 D3 st3
      have g_b3 : n0 ≤ b3 := Nat.le_trans Z0 (Nat.le_of_eq g3.symm)
      have f4 : Old Z n0 h3 := P0.ext E3
      have f5 : own_G 0 h3 := hG0.ext E3
      have f6 : own_W Z s.vm h3 := hW0.ext E3
      have f7 : Fld Z h3 b3 "com/example/coverbill/coverbill/book/Identifier" "type" "Ljava/lang/String;" .null := D3 (Or.inr (hw _ (List.mem_of_getElem? (i := 41) rfl))) (ty := (.object "java/lang/String")) (by decide)
      have f8 : Fld Z h3 b3 "com/example/coverbill/coverbill/book/Identifier" "value" "Ljava/lang/String;" .null := D3 (Or.inr (hw _ (List.mem_of_getElem? (i := 43) rfl))) (ty := (.object "java/lang/String")) (by decide)
      have Z3 : n0 ≤ h3.size := Nat.le_trans Z0 E3.1
      refine own_st st3 ?_
      show own_Go p e below K (T3.setTop (mkF m 31 #[.val (.int q1), .val (.int q2), .val (.int q3), .val (.int q4), .val (.int q5), .val (.int tt0), .val (.int vv0), .unset, .unset, .unset, .unset] [(.ref b3)]))
      try clear X2 e2 st3 P0 hG0 hW0
      refine own_st (fun t k => XS.dup X3.here hx rfl (hb hby at_31) rfl rfl k) ?_
      show own_Go p e below K (T3.setTop (mkF m 32 #[.val (.int q1), .val (.int q2), .val (.int q3), .val (.int q4), .val (.int q5), .val (.int tt0), .val (.int vv0), .unset, .unset, .unset, .unset] [(.ref b3), (.ref b3)]))
      refine own_st (fun t k => XS.iloadN X3.here hx rfl (hb hby at_32) rfl k) ?_
      show own_Go p e below K (T3.setTop (mkF m 33 #[.val (.int q1), .val (.int q2), .val (.int q3), .val (.int q4), .val (.int q5), .val (.int tt0), .val (.int vv0), .unset, .unset, .unset, .unset] [(.int q1), (.ref b3), (.ref b3)]))
      obtain ⟨_, _, ⟨T9, L9, k9, n9⟩, -, X9b, hSq9, hgr9, ⟨Lc9, hQ9, l9, y9, z9⟩, st9⟩ := callSS X3 hx (y := (⟨"com/example/coverbill/coverbill/book/IdentifierEqualsPinLaw", "str", "(I)Ljava/lang/String;"⟩ : MethodName)) hown (mvT hZ (hw _ (List.mem_of_getElem? (i := 3) rfl))) (mvT hZ (hw _ (List.mem_of_getElem? (i := 4) rfl))) (mvT hZ (hw _ (List.mem_of_getElem? (i := 5) rfl))) (mvT hZ (hw _ (List.mem_of_getElem? (i := 6) rfl))) (by decide) (own_backS (W := 2) (V := fun vm => own_W Z vm h3) (rm1 l Z a0 hw [] q1 (cs) h3 n0 Z3 f4 (by assumption) (by assumption) (by assumption) (by assumption)) hZ (fun vm' w => own_W.warm (s := s) f6 w) (hw _ (List.mem_of_getElem? (i := 6) rfl)) (hw _ (List.mem_of_getElem? (i := 5) rfl)) (by decide) (by decide)) (g := (mkF m 33 #[.val (.int q1), .val (.int q2), .val (.int q3), .val (.int q4), .val (.int q5), .val (.int tt0), .val (.int vv0), .unset, .unset, .unset, .unset] [(.int q1), (.ref b3), (.ref b3)])) rfl (by rw [hml]; rfl) (argsL := [(.int q1)]) (rest := [(.ref b3), (.ref b3)]) (lenOf pd_0_0 rfl) rfl (by show 2 * 0 + _ ≤ _; exact Nat.le_of_eq rfl) (hb hby at_33) (fun _ _ => ⟨rfl, e3, (by decide : 1 + 4 ≤ _), (by decide : 2 + 8 ≤ _)⟩)
      dsimp only [Pt.U, Pt.locs, Pt.cells, Pt.slots] at X9b l9 y9 z9 st9 hQ9 hSq9 hgr9
      have X9 : Stand p l e room_1 (s.setVm T9.vm) m #[(.int q1), (.int q2), (.int q3), (.int q4), (.int q5)] below meth c T9 L9 k9 n9 := X9b
      clear X9b
      have hS9 : s.Since T9.vm T9.heap.size := hS0.trans (n₂ := T9.heap.size) hSq9 (Nat.le_trans (Nat.le_trans f5 (Nat.le_of_eq (congrArg Array.size (e3)).symm)) hgr9)
      have hZ : Z.Warmed39 (s.setVm T9.vm).vm := State.Warmed39.trans (t := s) hZ hSq9.1
      have hown : (s.setVm T9.vm).vm.findClass "com/example/coverbill/coverbill/book/IdentifierEqualsPinLaw" = some m.cls := by rw [show (s.setVm T9.vm).vm = T9.vm from rfl, hSq9.1.alike.findClass]; exact hown
      obtain ⟨r9, b_9, k_9, n_9, rfl, hr9, fr9, N9q, Kq9, p9_0, p9_1, p9_2, p9_3, pp9_0, pp9_1, pW9⟩ := hQ9
      have N9 : Fr n0 L9 := by rw [l9]; exact Fr.app N2 N9q
      clear l9
      have y9' : k9 = 5 := y9
      have z9' : n9 = 10 := z9
      clear y9 z9
      subst y9' z9'
      have ne_b3_r9 : b3 ≠ r9 := Nat.ne_of_lt (Nat.lt_of_lt_of_le A3.lt fr9)
      have g_r9 : n0 ≤ r9 := Nat.le_trans Z3 fr9
      have f10 : Old Z n0 T9.heap := f4.keep Kq9 all0
      have f11 : Exa Z T9.heap b3 "com/example/coverbill/coverbill/book/Identifier" := A3.keep Kq9
      have f12 : Fld Z T9.heap b3 "com/example/coverbill/coverbill/book/Identifier" "type" "Ljava/lang/String;" .null := f7.keep Kq9 nin0
      have f13 : Fld Z T9.heap b3 "com/example/coverbill/coverbill/book/Identifier" "value" "Ljava/lang/String;" .null := f8.keep Kq9 nin0
      have hG9 : own_G T9.heap.size T9.heap := Nat.le_refl _
      have Z9 : n0 ≤ T9.heap.size := Nat.le_trans Z3 Kq9.1
      refine own_tr st9 ?_
      show own_Go p e below K (T9.setTop (mkF m 36 #[.val (.int q1), .val (.int q2), .val (.int q3), .val (.int q4), .val (.int q5), .val (.int tt0), .val (.int vv0), .unset, .unset, .unset, .unset] [(.ref r9), (.ref b3), (.ref b3)]))
      have ne_b3_b_9 : b3 ≠ b_9 := Exa.neArv f11 p9_3 (hw _ (List.mem_of_getElem? (i := 1) rfl))
      try clear X3 e3 st9 N2 N9q f4 A3 f7 f8
      refine own_st (fun t k => XS.iloadN X9.here hx rfl (hb hby at_36) rfl k) ?_
      show own_Go p e below K (T9.setTop (mkF m 37 #[.val (.int q1), .val (.int q2), .val (.int q3), .val (.int q4), .val (.int q5), .val (.int tt0), .val (.int vv0), .unset, .unset, .unset, .unset] [(.int q2), (.ref r9), (.ref b3), (.ref b3)]))
      obtain ⟨_, _, ⟨T14, L14, k14, n14⟩, -, X14b, hSq14, hgr14, ⟨Lc14, hQ14, l14, y14, z14⟩, st14⟩ := callSS X9 hx (y := (⟨"com/example/coverbill/coverbill/book/IdentifierEqualsPinLaw", "str", "(I)Ljava/lang/String;"⟩ : MethodName)) hown (mvT hZ (hw _ (List.mem_of_getElem? (i := 3) rfl))) (mvT hZ (hw _ (List.mem_of_getElem? (i := 4) rfl))) (mvT hZ (hw _ (List.mem_of_getElem? (i := 5) rfl))) (mvT hZ (hw _ (List.mem_of_getElem? (i := 6) rfl))) (by decide) (own_backS (W := 3) (V := fun vm => own_W Z vm T9.heap) (rm1 l Z a0 hw [] q2 (cs) T9.heap n0 Z9 f10 (by assumption) (by assumption) (by assumption) (by assumption)) hZ (fun vm' w => own_W.warm (s := (s.setVm T9.vm)) pW9 w) (hw _ (List.mem_of_getElem? (i := 6) rfl)) (hw _ (List.mem_of_getElem? (i := 5) rfl)) (by decide) (by decide)) (g := (mkF m 37 #[.val (.int q1), .val (.int q2), .val (.int q3), .val (.int q4), .val (.int q5), .val (.int tt0), .val (.int vv0), .unset, .unset, .unset, .unset] [(.int q2), (.ref r9), (.ref b3), (.ref b3)])) rfl (by rw [hml]; rfl) (argsL := [(.int q2)]) (rest := [(.ref r9), (.ref b3), (.ref b3)]) (lenOf pd_0_0 rfl) rfl (by show 2 * 0 + _ ≤ _; exact Nat.le_of_eq rfl) (hb hby at_37) (fun _ _ => ⟨rfl, rfl, (by decide : 5 + 4 ≤ _), (by decide : 10 + 8 ≤ _)⟩)
      dsimp only [Pt.U, Pt.locs, Pt.cells, Pt.slots] at X14b l14 y14 z14 st14 hQ14 hSq14 hgr14
      have X14 : Stand p l e room_1 (s.setVm T14.vm) m #[(.int q1), (.int q2), (.int q3), (.int q4), (.int q5)] below meth c T14 L14 k14 n14 := X14b
      clear X14b
      have hS14 : s.Since T14.vm T14.heap.size := hS9.trans (n₂ := T14.heap.size) hSq14 (Nat.le_trans (Nat.le_trans hG9 (Nat.le_of_eq (congrArg Array.size (rfl)).symm)) hgr14)
      have hZ : Z.Warmed39 (s.setVm T14.vm).vm := State.Warmed39.trans (t := (s.setVm T9.vm)) hZ hSq14.1
      have hown : (s.setVm T14.vm).vm.findClass "com/example/coverbill/coverbill/book/IdentifierEqualsPinLaw" = some m.cls := by rw [show (s.setVm T14.vm).vm = T14.vm from rfl, hSq14.1.alike.findClass]; exact hown
      obtain ⟨r14, b_14, k_14, n_14, rfl, hr14, fr14, N14q, Kq14, p14_0, p14_1, p14_2, p14_3, pp14_0, pp14_1, pW14⟩ := hQ14
      have N14 : Fr n0 L14 := by rw [l14]; exact Fr.app N9 N14q
      clear l14
      have y14' : k14 = 9 := y14
      have z14' : n14 = 18 := z14
      clear y14 z14
      subst y14' z14'
      have ne_b3_r14 : b3 ≠ r14 := Nat.ne_of_lt (Nat.lt_of_lt_of_le f11.lt fr14)
      have ne_b_9_r14 : b_9 ≠ r14 := Nat.ne_of_lt (Nat.lt_of_lt_of_le p9_3.lt fr14)
      have ne_r9_r14 : r9 ≠ r14 := Nat.ne_of_lt (Nat.lt_of_lt_of_le p9_0.lt fr14)
      have g_r14 : n0 ≤ r14 := Nat.le_trans Z9 fr14
      have f15 : Old Z n0 T14.heap := f10.keep Kq14 all0
      have f16 : Exa Z T14.heap b3 "com/example/coverbill/coverbill/book/Identifier" := f11.keep Kq14
      have f17 : Fld Z T14.heap b3 "com/example/coverbill/coverbill/book/Identifier" "type" "Ljava/lang/String;" .null := f12.keep Kq14 nin0
      have f18 : Fld Z T14.heap b3 "com/example/coverbill/coverbill/book/Identifier" "value" "Ljava/lang/String;" .null := f13.keep Kq14 nin0
      have f19 : Exa Z T14.heap r9 "java/lang/String" := p9_0.keep Kq14
      have f20 : Fld Z T14.heap r9 "java/lang/String" "coder" "B" (.int (0 : Int32)) := p9_1.keep Kq14 nin0
      have f21 : Fld Z T14.heap r9 "java/lang/String" "value" "[B" (.ref b_9) := p9_2.keep Kq14 nin0
      have f22 : Arv Z T14.heap b_9 k_9 .byte n_9 ((own_S q1).map Value.int) (.int (0 : Int32)) := p9_3.keep Kq14 nin0
      have hG14 : own_G T14.heap.size T14.heap := Nat.le_refl _
      have Z14 : n0 ≤ T14.heap.size := Nat.le_trans Z9 Kq14.1
      refine own_tr st14 ?_
      show own_Go p e below K (T14.setTop (mkF m 40 #[.val (.int q1), .val (.int q2), .val (.int q3), .val (.int q4), .val (.int q5), .val (.int tt0), .val (.int vv0), .unset, .unset, .unset, .unset] [(.ref r14), (.ref r9), (.ref b3), (.ref b3)]))
      have ne_b3_b_14 : b3 ≠ b_14 := Exa.neArv f16 p14_3 (hw _ (List.mem_of_getElem? (i := 1) rfl))
      try clear X9 st14 N9 N14q f10 f11 f12 f13 p9_0 p9_1 p9_2 p9_3
      obtain ⟨_, _, ⟨T23, L23, k23, n23⟩, -, X23, ⟨Lc23, hQ23, l23, y23, z23⟩, st23⟩ := X14.specialBack hx (y := (⟨"com/example/coverbill/coverbill/book/Identifier", "<init>", "(Ljava/lang/String;Ljava/lang/String;)V"⟩ : MethodName)) rfl hown (mvT hZ (hw _ (List.mem_of_getElem? (i := 36) rfl))) (mvT hZ (hw _ (List.mem_of_getElem? (i := 37) rfl))) (mvT hZ (hw _ (List.mem_of_getElem? (i := 38) rfl))) (by decide) (backOf (W := 1) (rm7 l Z a0 hw [] b3 r9 r14 T14.heap n0 Z14 g_b3 f16 f17 f18) hZ (hw _ (List.mem_of_getElem? (i := 38) rfl)) (hw _ (List.mem_of_getElem? (i := 2) rfl)) (by decide) (by decide)) (g := (mkF m 40 #[.val (.int q1), .val (.int q2), .val (.int q3), .val (.int q4), .val (.int q5), .val (.int tt0), .val (.int vv0), .unset, .unset, .unset, .unset] [(.ref r14), (.ref r9), (.ref b3), (.ref b3)])) rfl (by rw [hml]; rfl) (Steps.refl _) (a := b3) (argsL := [(.ref r9), (.ref r14)]) (rest := [(.ref b3)]) (lenOf pd_0_6 rfl) rfl (by show 2 * 0 + _ ≤ _; exact Nat.le_of_eq rfl) (hb hby at_40) (fun _ _ => ⟨rfl, rfl, (by decide : 9 + 0 ≤ _), (by decide : 18 + 0 ≤ _)⟩)
      dsimp only [Pt.U, Pt.locs, Pt.cells, Pt.slots] at X23 l23 y23 z23 st23 hQ23
      obtain ⟨rfl, N23q, Kq23, p23_0, p23_1, p23_2⟩ := hQ23
      have N23 : Fr n0 L23 := by rw [l23]; exact Fr.app N14 N23q
      clear l23
      have y23' : k23 = 9 := y23
      have z23' : n23 = 18 := z23
      clear y23 z23
      subst y23' z23'
      have f24 : Old Z n0 T23.heap := f15.keep Kq23 (allS (P := fun x => n0 ≤ x) g_b3 all0)
      have f25 : Exa Z T23.heap r9 "java/lang/String" := f19.keep Kq23
      have f26 : Fld Z T23.heap r9 "java/lang/String" "coder" "B" (.int (0 : Int32)) := f20.keep Kq23 (ninS (Ne.symm ne_b3_r9) nin0)
      have f27 : Fld Z T23.heap r9 "java/lang/String" "value" "[B" (.ref b_9) := f21.keep Kq23 (ninS (Ne.symm ne_b3_r9) nin0)
      have f28 : Arv Z T23.heap b_9 k_9 .byte n_9 ((own_S q1).map Value.int) (.int (0 : Int32)) := f22.keep Kq23 (ninS (Ne.symm ne_b3_b_9) nin0)
      have f29 : Exa Z T23.heap r14 "java/lang/String" := p14_0.keep Kq23
      have f30 : Fld Z T23.heap r14 "java/lang/String" "coder" "B" (.int (0 : Int32)) := p14_1.keep Kq23 (ninS (Ne.symm ne_b3_r14) nin0)
      have f31 : Fld Z T23.heap r14 "java/lang/String" "value" "[B" (.ref b_14) := p14_2.keep Kq23 (ninS (Ne.symm ne_b3_r14) nin0)
      have f32 : Arv Z T23.heap b_14 k_14 .byte n_14 ((own_S q2).map Value.int) (.int (0 : Int32)) := p14_3.keep Kq23 (ninS (Ne.symm ne_b3_b_14) nin0)
      have f33 : own_G T14.heap.size T23.heap := hG14.keep Kq23
      have f34 : own_W Z T14.vm T23.heap := pW14.keep Kq23 f16 (by decide) (hw _ (List.mem_of_getElem? (i := 1) rfl))
      have Z23 : n0 ≤ T23.heap.size := Nat.le_trans Z14 Kq23.1
      refine own_tr st23 ?_
      show own_Go p e below K (T23.setTop (mkF m 43 #[.val (.int q1), .val (.int q2), .val (.int q3), .val (.int q4), .val (.int q5), .val (.int tt0), .val (.int vv0), .unset, .unset, .unset, .unset] [(.ref b3)]))
      try clear X14 st23 N14 N23q f15 f19 f20 f21 f22 p14_0 p14_1 p14_2 p14_3 hG14 pW14
      refine own_st (fun t k => XS.astore X23.here hx rfl (hb hby at_43) rfl rfl (l' := #[.val (.int q1), .val (.int q2), .val (.int q3), .val (.int q4), .val (.int q5), .val (.int tt0), .val (.int vv0), .val (.ref b3), .unset, .unset, .unset]) rfl k) ?_
      show own_Go p e below K (T23.setTop (mkF m 45 #[.val (.int q1), .val (.int q2), .val (.int q3), .val (.int q4), .val (.int q5), .val (.int tt0), .val (.int vv0), .val (.ref b3), .unset, .unset, .unset] []))
      obtain ⟨T35, h35, X35, e35, E35, A35, D35, -, st35⟩ := newO X23 hx hZ hown (hw _ (List.mem_of_getElem? (i := 0) rfl)) (hw _ (List.mem_of_getElem? (i := 1) rfl)) (hw _ (List.mem_of_getElem? (i := 2) rfl)) rfl (g := (mkF m 45 #[.val (.int q1), .val (.int q2), .val (.int q3), .val (.int q4), .val (.int q5), .val (.int tt0), .val (.int vv0), .val (.ref b3), .unset, .unset, .unset] [])) rfl (hb hby at_45) (by decide) (by decide)
      obtain ⟨b35, g35⟩ : ∃ z, z = T23.heap.size := ⟨_, rfl⟩
      rw [← g35] at A35 D35 st35
      have ne_b3_b35 : b3 ≠ b35 := Nat.ne_of_lt (Nat.lt_of_lt_of_le p23_0.lt (Nat.le_of_eq g35.symm))
      have ne_b_14_b35 : b_14 ≠ b35 := Nat.ne_of_lt (Nat.lt_of_lt_of_le f32.lt (Nat.le_of_eq g35.symm))
      have ne_b_9_b35 : b_9 ≠ b35 := Nat.ne_of_lt (Nat.lt_of_lt_of_le f28.lt (Nat.le_of_eq g35.symm))
      have ne_r14_b35 : r14 ≠ b35 := Nat.ne_of_lt (Nat.lt_of_lt_of_le f29.lt (Nat.le_of_eq g35.symm))
      have ne_r9_b35 : r9 ≠ b35 := Nat.ne_of_lt (Nat.lt_of_lt_of_le f25.lt (Nat.le_of_eq g35.symm))
      have g_b35 : n0 ≤ b35 := Nat.le_trans Z23 (Nat.le_of_eq g35.symm)
      have f36 : Old Z n0 h35 := f24.ext E35
      have f37 : Exa Z h35 r9 "java/lang/String" := f25.ext E35
      have f38 : Fld Z h35 r9 "java/lang/String" "coder" "B" (.int (0 : Int32)) := f26.ext E35
      have f39 : Fld Z h35 r9 "java/lang/String" "value" "[B" (.ref b_9) := f27.ext E35
      have f40 : Arv Z h35 b_9 k_9 .byte n_9 ((own_S q1).map Value.int) (.int (0 : Int32)) := f28.ext E35
      have f41 : Exa Z h35 r14 "java/lang/String" := f29.ext E35
      have f42 : Fld Z h35 r14 "java/lang/String" "coder" "B" (.int (0 : Int32)) := f30.ext E35
      have f43 : Fld Z h35 r14 "java/lang/String" "value" "[B" (.ref b_14) := f31.ext E35
      have f44 : Arv Z h35 b_14 k_14 .byte n_14 ((own_S q2).map Value.int) (.int (0 : Int32)) := f32.ext E35
      have f45 : own_G T14.heap.size h35 := f33.ext E35
      have f46 : own_W Z T14.vm h35 := f34.ext E35
      have f47 : Exa Z h35 b3 "com/example/coverbill/coverbill/book/Identifier" := p23_0.ext E35
      have f48 : Fld Z h35 b3 "com/example/coverbill/coverbill/book/Identifier" "type" "Ljava/lang/String;" (.ref r9) := p23_1.ext E35
      have f49 : Fld Z h35 b3 "com/example/coverbill/coverbill/book/Identifier" "value" "Ljava/lang/String;" (.ref r14) := p23_2.ext E35
      have f50 : Fld Z h35 b35 "com/example/coverbill/coverbill/book/Identifier" "type" "Ljava/lang/String;" .null := D35 (Or.inr (hw _ (List.mem_of_getElem? (i := 41) rfl))) (ty := (.object "java/lang/String")) (by decide)
      have f51 : Fld Z h35 b35 "com/example/coverbill/coverbill/book/Identifier" "value" "Ljava/lang/String;" .null := D35 (Or.inr (hw _ (List.mem_of_getElem? (i := 43) rfl))) (ty := (.object "java/lang/String")) (by decide)
      have Z35 : n0 ≤ h35.size := Nat.le_trans Z23 E35.1
      refine own_st st35 ?_
      show own_Go p e below K (T35.setTop (mkF m 48 #[.val (.int q1), .val (.int q2), .val (.int q3), .val (.int q4), .val (.int q5), .val (.int tt0), .val (.int vv0), .val (.ref b3), .unset, .unset, .unset] [(.ref b35)]))
      try clear X23 st35 f24 f25 f26 f27 f28 f29 f30 f31 f32 f33 f34 p23_0 p23_1 p23_2
      refine own_st (fun t k => XS.dup X35.here hx rfl (hb hby at_48) rfl rfl k) ?_
      show own_Go p e below K (T35.setTop (mkF m 49 #[.val (.int q1), .val (.int q2), .val (.int q3), .val (.int q4), .val (.int q5), .val (.int tt0), .val (.int vv0), .val (.ref b3), .unset, .unset, .unset] [(.ref b35), (.ref b35)]))
      refine own_st (fun t k => XS.iload X35.here hx rfl (hb hby at_49) rfl k) ?_
      show own_Go p e below K (T35.setTop (mkF m 51 #[.val (.int q1), .val (.int q2), .val (.int q3), .val (.int q4), .val (.int q5), .val (.int tt0), .val (.int vv0), .val (.ref b3), .unset, .unset, .unset] [(.int tt0), (.ref b35), (.ref b35)]))
      obtain ⟨_, _, ⟨T52, L52, k52, n52⟩, -, X52b, hSq52, hgr52, ⟨Lc52, hQ52, l52, y52, z52⟩, st52⟩ := callSS X35 hx (y := (⟨"com/example/coverbill/coverbill/book/IdentifierEqualsPinLaw", "str", "(I)Ljava/lang/String;"⟩ : MethodName)) hown (mvT hZ (hw _ (List.mem_of_getElem? (i := 3) rfl))) (mvT hZ (hw _ (List.mem_of_getElem? (i := 4) rfl))) (mvT hZ (hw _ (List.mem_of_getElem? (i := 5) rfl))) (mvT hZ (hw _ (List.mem_of_getElem? (i := 6) rfl))) (by decide) (own_backS (W := 2) (V := fun vm => own_W Z vm h35) (rm1 l Z a0 hw [] tt0 (cs) h35 n0 Z35 f36 (by assumption) (by assumption) (by assumption) (by assumption)) hZ (fun vm' w => own_W.warm (s := (s.setVm T14.vm)) f46 w) (hw _ (List.mem_of_getElem? (i := 6) rfl)) (hw _ (List.mem_of_getElem? (i := 5) rfl)) (by decide) (by decide)) (g := (mkF m 51 #[.val (.int q1), .val (.int q2), .val (.int q3), .val (.int q4), .val (.int q5), .val (.int tt0), .val (.int vv0), .val (.ref b3), .unset, .unset, .unset] [(.int tt0), (.ref b35), (.ref b35)])) rfl (by rw [hml]; rfl) (argsL := [(.int tt0)]) (rest := [(.ref b35), (.ref b35)]) (lenOf pd_0_0 rfl) rfl (by show 2 * 0 + _ ≤ _; exact Nat.le_of_eq rfl) (hb hby at_51) (fun _ _ => ⟨rfl, e35, (by decide : 10 + 4 ≤ _), (by decide : 20 + 8 ≤ _)⟩)
      dsimp only [Pt.U, Pt.locs, Pt.cells, Pt.slots] at X52b l52 y52 z52 st52 hQ52 hSq52 hgr52
      have X52 : Stand p l e room_1 (s.setVm T52.vm) m #[(.int q1), (.int q2), (.int q3), (.int q4), (.int q5)] below meth c T52 L52 k52 n52 := X52b
      clear X52b
      have hS52 : s.Since T52.vm T52.heap.size := hS14.trans (n₂ := T52.heap.size) hSq52 (Nat.le_trans (Nat.le_trans f45 (Nat.le_of_eq (congrArg Array.size (e35)).symm)) hgr52)
      have hZ : Z.Warmed39 (s.setVm T52.vm).vm := State.Warmed39.trans (t := (s.setVm T14.vm)) hZ hSq52.1
      have hown : (s.setVm T52.vm).vm.findClass "com/example/coverbill/coverbill/book/IdentifierEqualsPinLaw" = some m.cls := by rw [show (s.setVm T52.vm).vm = T52.vm from rfl, hSq52.1.alike.findClass]; exact hown
      obtain ⟨r52, b_52, k_52, n_52, rfl, hr52, fr52, N52q, Kq52, p52_0, p52_1, p52_2, p52_3, pp52_0, pp52_1, pW52⟩ := hQ52
      have N52 : Fr n0 L52 := by rw [l52]; exact Fr.app N23 N52q
      clear l52
      have y52' : k52 = 14 := y52
      have z52' : n52 = 28 := z52
      clear y52 z52
      subst y52' z52'
      have ne_b3_r52 : b3 ≠ r52 := Nat.ne_of_lt (Nat.lt_of_lt_of_le f47.lt fr52)
      have ne_b35_r52 : b35 ≠ r52 := Nat.ne_of_lt (Nat.lt_of_lt_of_le A35.lt fr52)
      have ne_b_14_r52 : b_14 ≠ r52 := Nat.ne_of_lt (Nat.lt_of_lt_of_le f44.lt fr52)
      have ne_b_9_r52 : b_9 ≠ r52 := Nat.ne_of_lt (Nat.lt_of_lt_of_le f40.lt fr52)
      have ne_r14_r52 : r14 ≠ r52 := Nat.ne_of_lt (Nat.lt_of_lt_of_le f41.lt fr52)
      have ne_r9_r52 : r9 ≠ r52 := Nat.ne_of_lt (Nat.lt_of_lt_of_le f37.lt fr52)
      have g_r52 : n0 ≤ r52 := Nat.le_trans Z35 fr52
      have f53 : Old Z n0 T52.heap := f36.keep Kq52 all0
      have f54 : Exa Z T52.heap r9 "java/lang/String" := f37.keep Kq52
      have f55 : Fld Z T52.heap r9 "java/lang/String" "coder" "B" (.int (0 : Int32)) := f38.keep Kq52 nin0
      have f56 : Fld Z T52.heap r9 "java/lang/String" "value" "[B" (.ref b_9) := f39.keep Kq52 nin0
      have f57 : Arv Z T52.heap b_9 k_9 .byte n_9 ((own_S q1).map Value.int) (.int (0 : Int32)) := f40.keep Kq52 nin0
      have f58 : Exa Z T52.heap r14 "java/lang/String" := f41.keep Kq52
      have f59 : Fld Z T52.heap r14 "java/lang/String" "coder" "B" (.int (0 : Int32)) := f42.keep Kq52 nin0
      have f60 : Fld Z T52.heap r14 "java/lang/String" "value" "[B" (.ref b_14) := f43.keep Kq52 nin0
      have f61 : Arv Z T52.heap b_14 k_14 .byte n_14 ((own_S q2).map Value.int) (.int (0 : Int32)) := f44.keep Kq52 nin0
      have f62 : Exa Z T52.heap b3 "com/example/coverbill/coverbill/book/Identifier" := f47.keep Kq52
      have f63 : Fld Z T52.heap b3 "com/example/coverbill/coverbill/book/Identifier" "type" "Ljava/lang/String;" (.ref r9) := f48.keep Kq52 nin0
      have f64 : Fld Z T52.heap b3 "com/example/coverbill/coverbill/book/Identifier" "value" "Ljava/lang/String;" (.ref r14) := f49.keep Kq52 nin0
      have f65 : Exa Z T52.heap b35 "com/example/coverbill/coverbill/book/Identifier" := A35.keep Kq52
      have f66 : Fld Z T52.heap b35 "com/example/coverbill/coverbill/book/Identifier" "type" "Ljava/lang/String;" .null := f50.keep Kq52 nin0
      have f67 : Fld Z T52.heap b35 "com/example/coverbill/coverbill/book/Identifier" "value" "Ljava/lang/String;" .null := f51.keep Kq52 nin0
      have hG52 : own_G T52.heap.size T52.heap := Nat.le_refl _
      have Z52 : n0 ≤ T52.heap.size := Nat.le_trans Z35 Kq52.1
      refine own_tr st52 ?_
      show own_Go p e below K (T52.setTop (mkF m 54 #[.val (.int q1), .val (.int q2), .val (.int q3), .val (.int q4), .val (.int q5), .val (.int tt0), .val (.int vv0), .val (.ref b3), .unset, .unset, .unset] [(.ref r52), (.ref b35), (.ref b35)]))
      have ne_b3_b_52 : b3 ≠ b_52 := Exa.neArv f62 p52_3 (hw _ (List.mem_of_getElem? (i := 1) rfl))
      have ne_b35_b_52 : b35 ≠ b_52 := Exa.neArv f65 p52_3 (hw _ (List.mem_of_getElem? (i := 1) rfl))
      try clear X35 e35 st52 N23 N52q f36 f37 f38 f39 f40 f41 f42 f43 f44 f47 f48 f49 A35 f50 f51
      refine own_st (fun t k => XS.iload X52.here hx rfl (hb hby at_54) rfl k) ?_
      show own_Go p e below K (T52.setTop (mkF m 56 #[.val (.int q1), .val (.int q2), .val (.int q3), .val (.int q4), .val (.int q5), .val (.int tt0), .val (.int vv0), .val (.ref b3), .unset, .unset, .unset] [(.int vv0), (.ref r52), (.ref b35), (.ref b35)]))
      obtain ⟨_, _, ⟨T68, L68, k68, n68⟩, -, X68b, hSq68, hgr68, ⟨Lc68, hQ68, l68, y68, z68⟩, st68⟩ := callSS X52 hx (y := (⟨"com/example/coverbill/coverbill/book/IdentifierEqualsPinLaw", "str", "(I)Ljava/lang/String;"⟩ : MethodName)) hown (mvT hZ (hw _ (List.mem_of_getElem? (i := 3) rfl))) (mvT hZ (hw _ (List.mem_of_getElem? (i := 4) rfl))) (mvT hZ (hw _ (List.mem_of_getElem? (i := 5) rfl))) (mvT hZ (hw _ (List.mem_of_getElem? (i := 6) rfl))) (by decide) (own_backS (W := 3) (V := fun vm => own_W Z vm T52.heap) (rm1 l Z a0 hw [] vv0 (cs) T52.heap n0 Z52 f53 (by assumption) (by assumption) (by assumption) (by assumption)) hZ (fun vm' w => own_W.warm (s := (s.setVm T52.vm)) pW52 w) (hw _ (List.mem_of_getElem? (i := 6) rfl)) (hw _ (List.mem_of_getElem? (i := 5) rfl)) (by decide) (by decide)) (g := (mkF m 56 #[.val (.int q1), .val (.int q2), .val (.int q3), .val (.int q4), .val (.int q5), .val (.int tt0), .val (.int vv0), .val (.ref b3), .unset, .unset, .unset] [(.int vv0), (.ref r52), (.ref b35), (.ref b35)])) rfl (by rw [hml]; rfl) (argsL := [(.int vv0)]) (rest := [(.ref r52), (.ref b35), (.ref b35)]) (lenOf pd_0_0 rfl) rfl (by show 2 * 0 + _ ≤ _; exact Nat.le_of_eq rfl) (hb hby at_56) (fun _ _ => ⟨rfl, rfl, (by decide : 14 + 4 ≤ _), (by decide : 28 + 8 ≤ _)⟩)
      dsimp only [Pt.U, Pt.locs, Pt.cells, Pt.slots] at X68b l68 y68 z68 st68 hQ68 hSq68 hgr68
      have X68 : Stand p l e room_1 (s.setVm T68.vm) m #[(.int q1), (.int q2), (.int q3), (.int q4), (.int q5)] below meth c T68 L68 k68 n68 := X68b
      clear X68b
      have hS68 : s.Since T68.vm T68.heap.size := hS52.trans (n₂ := T68.heap.size) hSq68 (Nat.le_trans (Nat.le_trans hG52 (Nat.le_of_eq (congrArg Array.size (rfl)).symm)) hgr68)
      have hZ : Z.Warmed39 (s.setVm T68.vm).vm := State.Warmed39.trans (t := (s.setVm T52.vm)) hZ hSq68.1
      have hown : (s.setVm T68.vm).vm.findClass "com/example/coverbill/coverbill/book/IdentifierEqualsPinLaw" = some m.cls := by rw [show (s.setVm T68.vm).vm = T68.vm from rfl, hSq68.1.alike.findClass]; exact hown
      obtain ⟨r68, b_68, k_68, n_68, rfl, hr68, fr68, N68q, Kq68, p68_0, p68_1, p68_2, p68_3, pp68_0, pp68_1, pW68⟩ := hQ68
      have N68 : Fr n0 L68 := by rw [l68]; exact Fr.app N52 N68q
      clear l68
      have y68' : k68 = 18 := y68
      have z68' : n68 = 36 := z68
      clear y68 z68
      subst y68' z68'
      have ne_b3_r68 : b3 ≠ r68 := Nat.ne_of_lt (Nat.lt_of_lt_of_le f62.lt fr68)
      have ne_b35_r68 : b35 ≠ r68 := Nat.ne_of_lt (Nat.lt_of_lt_of_le f65.lt fr68)
      have ne_b_14_r68 : b_14 ≠ r68 := Nat.ne_of_lt (Nat.lt_of_lt_of_le f61.lt fr68)
      have ne_b_52_r68 : b_52 ≠ r68 := Nat.ne_of_lt (Nat.lt_of_lt_of_le p52_3.lt fr68)
      have ne_b_9_r68 : b_9 ≠ r68 := Nat.ne_of_lt (Nat.lt_of_lt_of_le f57.lt fr68)
      have ne_r14_r68 : r14 ≠ r68 := Nat.ne_of_lt (Nat.lt_of_lt_of_le f58.lt fr68)
      have ne_r52_r68 : r52 ≠ r68 := Nat.ne_of_lt (Nat.lt_of_lt_of_le p52_0.lt fr68)
      have ne_r9_r68 : r9 ≠ r68 := Nat.ne_of_lt (Nat.lt_of_lt_of_le f54.lt fr68)
      have g_r68 : n0 ≤ r68 := Nat.le_trans Z52 fr68
      have f69 : Old Z n0 T68.heap := f53.keep Kq68 all0
      have f70 : Exa Z T68.heap r9 "java/lang/String" := f54.keep Kq68
      have f71 : Fld Z T68.heap r9 "java/lang/String" "coder" "B" (.int (0 : Int32)) := f55.keep Kq68 nin0
      have f72 : Fld Z T68.heap r9 "java/lang/String" "value" "[B" (.ref b_9) := f56.keep Kq68 nin0
      have f73 : Arv Z T68.heap b_9 k_9 .byte n_9 ((own_S q1).map Value.int) (.int (0 : Int32)) := f57.keep Kq68 nin0
      have f74 : Exa Z T68.heap r14 "java/lang/String" := f58.keep Kq68
      have f75 : Fld Z T68.heap r14 "java/lang/String" "coder" "B" (.int (0 : Int32)) := f59.keep Kq68 nin0
      have f76 : Fld Z T68.heap r14 "java/lang/String" "value" "[B" (.ref b_14) := f60.keep Kq68 nin0
      have f77 : Arv Z T68.heap b_14 k_14 .byte n_14 ((own_S q2).map Value.int) (.int (0 : Int32)) := f61.keep Kq68 nin0
      have f78 : Exa Z T68.heap b3 "com/example/coverbill/coverbill/book/Identifier" := f62.keep Kq68
      have f79 : Fld Z T68.heap b3 "com/example/coverbill/coverbill/book/Identifier" "type" "Ljava/lang/String;" (.ref r9) := f63.keep Kq68 nin0
      have f80 : Fld Z T68.heap b3 "com/example/coverbill/coverbill/book/Identifier" "value" "Ljava/lang/String;" (.ref r14) := f64.keep Kq68 nin0
      have f81 : Exa Z T68.heap b35 "com/example/coverbill/coverbill/book/Identifier" := f65.keep Kq68
      have f82 : Fld Z T68.heap b35 "com/example/coverbill/coverbill/book/Identifier" "type" "Ljava/lang/String;" .null := f66.keep Kq68 nin0
      have f83 : Fld Z T68.heap b35 "com/example/coverbill/coverbill/book/Identifier" "value" "Ljava/lang/String;" .null := f67.keep Kq68 nin0
      have f84 : Exa Z T68.heap r52 "java/lang/String" := p52_0.keep Kq68
      have f85 : Fld Z T68.heap r52 "java/lang/String" "coder" "B" (.int (0 : Int32)) := p52_1.keep Kq68 nin0
      have f86 : Fld Z T68.heap r52 "java/lang/String" "value" "[B" (.ref b_52) := p52_2.keep Kq68 nin0
      have f87 : Arv Z T68.heap b_52 k_52 .byte n_52 ((own_S tt0).map Value.int) (.int (0 : Int32)) := p52_3.keep Kq68 nin0
      have hG68 : own_G T68.heap.size T68.heap := Nat.le_refl _
      have Z68 : n0 ≤ T68.heap.size := Nat.le_trans Z52 Kq68.1
      refine own_tr st68 ?_
      show own_Go p e below K (T68.setTop (mkF m 59 #[.val (.int q1), .val (.int q2), .val (.int q3), .val (.int q4), .val (.int q5), .val (.int tt0), .val (.int vv0), .val (.ref b3), .unset, .unset, .unset] [(.ref r68), (.ref r52), (.ref b35), (.ref b35)]))
      have ne_b3_b_68 : b3 ≠ b_68 := Exa.neArv f78 p68_3 (hw _ (List.mem_of_getElem? (i := 1) rfl))
      have ne_b35_b_68 : b35 ≠ b_68 := Exa.neArv f81 p68_3 (hw _ (List.mem_of_getElem? (i := 1) rfl))
      try clear X52 st68 N52 N68q f53 f54 f55 f56 f57 f58 f59 f60 f61 f62 f63 f64 f65 f66 f67 p52_0 p52_1 p52_2 p52_3
      obtain ⟨_, _, ⟨T88, L88, k88, n88⟩, -, X88, ⟨Lc88, hQ88, l88, y88, z88⟩, st88⟩ := X68.specialBack hx (y := (⟨"com/example/coverbill/coverbill/book/Identifier", "<init>", "(Ljava/lang/String;Ljava/lang/String;)V"⟩ : MethodName)) rfl hown (mvT hZ (hw _ (List.mem_of_getElem? (i := 36) rfl))) (mvT hZ (hw _ (List.mem_of_getElem? (i := 37) rfl))) (mvT hZ (hw _ (List.mem_of_getElem? (i := 38) rfl))) (by decide) (backOf (W := 1) (rm7 l Z a0 hw [] b35 r52 r68 T68.heap n0 Z68 g_b35 f81 f82 f83) hZ (hw _ (List.mem_of_getElem? (i := 38) rfl)) (hw _ (List.mem_of_getElem? (i := 2) rfl)) (by decide) (by decide)) (g := (mkF m 59 #[.val (.int q1), .val (.int q2), .val (.int q3), .val (.int q4), .val (.int q5), .val (.int tt0), .val (.int vv0), .val (.ref b3), .unset, .unset, .unset] [(.ref r68), (.ref r52), (.ref b35), (.ref b35)])) rfl (by rw [hml]; rfl) (Steps.refl _) (a := b35) (argsL := [(.ref r52), (.ref r68)]) (rest := [(.ref b35)]) (lenOf pd_0_6 rfl) rfl (by show 2 * 0 + _ ≤ _; exact Nat.le_of_eq rfl) (hb hby at_59) (fun _ _ => ⟨rfl, rfl, (by decide : 18 + 0 ≤ _), (by decide : 36 + 0 ≤ _)⟩)
      dsimp only [Pt.U, Pt.locs, Pt.cells, Pt.slots] at X88 l88 y88 z88 st88 hQ88
      obtain ⟨rfl, N88q, Kq88, p88_0, p88_1, p88_2⟩ := hQ88
      have N88 : Fr n0 L88 := by rw [l88]; exact Fr.app N68 N88q
      clear l88
      have y88' : k88 = 18 := y88
      have z88' : n88 = 36 := z88
      clear y88 z88
      subst y88' z88'
      have f89 : Old Z n0 T88.heap := f69.keep Kq88 (allS (P := fun x => n0 ≤ x) g_b35 all0)
      have f90 : Exa Z T88.heap r9 "java/lang/String" := f70.keep Kq88
      have f91 : Fld Z T88.heap r9 "java/lang/String" "coder" "B" (.int (0 : Int32)) := f71.keep Kq88 (ninS ne_r9_b35 nin0)
      have f92 : Fld Z T88.heap r9 "java/lang/String" "value" "[B" (.ref b_9) := f72.keep Kq88 (ninS ne_r9_b35 nin0)
      have f93 : Arv Z T88.heap b_9 k_9 .byte n_9 ((own_S q1).map Value.int) (.int (0 : Int32)) := f73.keep Kq88 (ninS ne_b_9_b35 nin0)
      have f94 : Exa Z T88.heap r14 "java/lang/String" := f74.keep Kq88
      have f95 : Fld Z T88.heap r14 "java/lang/String" "coder" "B" (.int (0 : Int32)) := f75.keep Kq88 (ninS ne_r14_b35 nin0)
      have f96 : Fld Z T88.heap r14 "java/lang/String" "value" "[B" (.ref b_14) := f76.keep Kq88 (ninS ne_r14_b35 nin0)
      have f97 : Arv Z T88.heap b_14 k_14 .byte n_14 ((own_S q2).map Value.int) (.int (0 : Int32)) := f77.keep Kq88 (ninS ne_b_14_b35 nin0)
      have f98 : Exa Z T88.heap b3 "com/example/coverbill/coverbill/book/Identifier" := f78.keep Kq88
      have f99 : Fld Z T88.heap b3 "com/example/coverbill/coverbill/book/Identifier" "type" "Ljava/lang/String;" (.ref r9) := f79.keep Kq88 (ninS ne_b3_b35 nin0)
      have f100 : Fld Z T88.heap b3 "com/example/coverbill/coverbill/book/Identifier" "value" "Ljava/lang/String;" (.ref r14) := f80.keep Kq88 (ninS ne_b3_b35 nin0)
      have f101 : Exa Z T88.heap r52 "java/lang/String" := f84.keep Kq88
      have f102 : Fld Z T88.heap r52 "java/lang/String" "coder" "B" (.int (0 : Int32)) := f85.keep Kq88 (ninS (Ne.symm ne_b35_r52) nin0)
      have f103 : Fld Z T88.heap r52 "java/lang/String" "value" "[B" (.ref b_52) := f86.keep Kq88 (ninS (Ne.symm ne_b35_r52) nin0)
      have f104 : Arv Z T88.heap b_52 k_52 .byte n_52 ((own_S tt0).map Value.int) (.int (0 : Int32)) := f87.keep Kq88 (ninS (Ne.symm ne_b35_b_52) nin0)
      have f105 : Exa Z T88.heap r68 "java/lang/String" := p68_0.keep Kq88
      have f106 : Fld Z T88.heap r68 "java/lang/String" "coder" "B" (.int (0 : Int32)) := p68_1.keep Kq88 (ninS (Ne.symm ne_b35_r68) nin0)
      have f107 : Fld Z T88.heap r68 "java/lang/String" "value" "[B" (.ref b_68) := p68_2.keep Kq88 (ninS (Ne.symm ne_b35_r68) nin0)
      have f108 : Arv Z T88.heap b_68 k_68 .byte n_68 ((own_S vv0).map Value.int) (.int (0 : Int32)) := p68_3.keep Kq88 (ninS (Ne.symm ne_b35_b_68) nin0)
      have f109 : own_G T68.heap.size T88.heap := hG68.keep Kq88
      have f110 : own_W Z T68.vm T88.heap := pW68.keep Kq88 f81 (by decide) (hw _ (List.mem_of_getElem? (i := 1) rfl))
      have Z88 : n0 ≤ T88.heap.size := Nat.le_trans Z68 Kq88.1
      refine own_tr st88 ?_
      show own_Go p e below K (T88.setTop (mkF m 62 #[.val (.int q1), .val (.int q2), .val (.int q3), .val (.int q4), .val (.int q5), .val (.int tt0), .val (.int vv0), .val (.ref b3), .unset, .unset, .unset] [(.ref b35)]))
      try clear X68 st88 N68 N88q f69 f70 f71 f72 f73 f74 f75 f76 f77 f78 f79 f80 f84 f85 f86 f87 p68_0 p68_1 p68_2 p68_3 hG68 pW68
      refine own_st (fun t k => XS.astore X88.here hx rfl (hb hby at_62) rfl rfl (l' := #[.val (.int q1), .val (.int q2), .val (.int q3), .val (.int q4), .val (.int q5), .val (.int tt0), .val (.int vv0), .val (.ref b3), .val (.ref b35), .unset, .unset]) rfl k) ?_
      show own_Go p e below K (T88.setTop (mkF m 64 #[.val (.int q1), .val (.int q2), .val (.int q3), .val (.int q4), .val (.int q5), .val (.int tt0), .val (.int vv0), .val (.ref b3), .val (.ref b35), .unset, .unset] []))
      refine own_st (fun t k => XS.iload X88.here hx rfl (hb hby at_64) rfl k) ?_
      show own_Go p e below K (T88.setTop (mkF m 66 #[.val (.int q1), .val (.int q2), .val (.int q3), .val (.int q4), .val (.int q5), .val (.int tt0), .val (.int vv0), .val (.ref b3), .val (.ref b35), .unset, .unset] [(.int q5)]))
      refine own_st (fun t k => XS.iconst X88.here hx rfl (hb hby at_66) k) ?_
      show own_Go p e below K (T88.setTop (mkF m 67 #[.val (.int q1), .val (.int q2), .val (.int q3), .val (.int q4), .val (.int q5), .val (.int tt0), .val (.int vv0), .val (.ref b3), .val (.ref b35), .unset, .unset] [(.int (2 : Int32)), (.int q5)]))
      refine own_st (fun t k => XS.iushr X88.here hx rfl (hb hby at_67) rfl k) ?_
      show own_Go p e below K (T88.setTop (mkF m 68 #[.val (.int q1), .val (.int q2), .val (.int q3), .val (.int q4), .val (.int q5), .val (.int tt0), .val (.int vv0), .val (.ref b3), .val (.ref b35), .unset, .unset] [(.int ((q5.toUInt32 >>> ((2 : Int32) &&& 31).toUInt32).toInt32))]))
      refine own_st (fun t k => XS.iconst X88.here hx rfl (hb hby at_68) k) ?_
      show own_Go p e below K (T88.setTop (mkF m 69 #[.val (.int q1), .val (.int q2), .val (.int q3), .val (.int q4), .val (.int q5), .val (.int tt0), .val (.int vv0), .val (.ref b3), .val (.ref b35), .unset, .unset] [(.int (3 : Int32)), (.int ((q5.toUInt32 >>> ((2 : Int32) &&& 31).toUInt32).toInt32))]))
      refine own_st (fun t k => XS.iand X88.here hx rfl (hb hby at_69) rfl k) ?_
      show own_Go p e below K (T88.setTop (mkF m 70 #[.val (.int q1), .val (.int q2), .val (.int q3), .val (.int q4), .val (.int q5), .val (.int tt0), .val (.int vv0), .val (.ref b3), .val (.ref b35), .unset, .unset] [(.int (((q5.toUInt32 >>> ((2 : Int32) &&& 31).toUInt32).toInt32) &&& (3 : Int32)))]))
      generalize hkd : (((q5.toUInt32 >>> ((2 : Int32) &&& 31).toUInt32).toInt32) &&& (3 : Int32)) = kd
      show own_Go p e below K (T88.setTop (mkF m 70 #[.val (.int q1), .val (.int q2), .val (.int q3), .val (.int q4), .val (.int q5), .val (.int tt0), .val (.int vv0), .val (.ref b3), .val (.ref b35), .unset, .unset] [(.int kd)]))
      refine own_st (fun t k => XS.istore X88.here hx rfl (hb hby at_70) rfl (l' := #[.val (.int q1), .val (.int q2), .val (.int q3), .val (.int q4), .val (.int q5), .val (.int tt0), .val (.int vv0), .val (.ref b3), .val (.ref b35), .val (.int kd), .unset]) rfl k) ?_
      show own_Go p e below K (T88.setTop (mkF m 72 #[.val (.int q1), .val (.int q2), .val (.int q3), .val (.int q4), .val (.int q5), .val (.int tt0), .val (.int vv0), .val (.ref b3), .val (.ref b35), .val (.int kd), .unset] []))
      refine own_st (fun t k => XS.iload X88.here hx rfl (hb hby at_72) rfl k) ?_
      show own_Go p e below K (T88.setTop (mkF m 74 #[.val (.int q1), .val (.int q2), .val (.int q3), .val (.int q4), .val (.int q5), .val (.int tt0), .val (.int vv0), .val (.ref b3), .val (.ref b35), .val (.int kd), .unset] [(.int kd)]))
      refine own_st (fun t k => XS.iconst X88.here hx rfl (hb hby at_74) k) ?_
      show own_Go p e below K (T88.setTop (mkF m 75 #[.val (.int q1), .val (.int q2), .val (.int q3), .val (.int q4), .val (.int q5), .val (.int tt0), .val (.int vv0), .val (.ref b3), .val (.ref b35), .val (.int kd), .unset] [(.int (1 : Int32)), (.int kd)]))
      by_cases hc75 : kd = (1 : Int32)
      · refine own_st (fun t k => XS.icmpNo X88.here hx rfl (hb hby at_75) rfl (teq hc75).2 k) ?_
        show own_Go p e below K (T88.setTop (mkF m 78 #[.val (.int q1), .val (.int q2), .val (.int q3), .val (.int q4), .val (.int q5), .val (.int tt0), .val (.int vv0), .val (.ref b3), .val (.ref b35), .val (.int kd), .unset] []))
        refine own_st (fun t k => XS.aload X88.here hx rfl (hb hby at_78) rfl rfl k) ?_
        show own_Go p e below K (T88.setTop (mkF m 80 #[.val (.int q1), .val (.int q2), .val (.int q3), .val (.int q4), .val (.int q5), .val (.int tt0), .val (.int vv0), .val (.ref b3), .val (.ref b35), .val (.int kd), .unset] [(.ref b3)]))
        refine own_st (fun t k => XS.aconstNull X88.here hx rfl (hb hby at_80) k) ?_
        show own_Go p e below K (T88.setTop (mkF m 81 #[.val (.int q1), .val (.int q2), .val (.int q3), .val (.int q4), .val (.int q5), .val (.int tt0), .val (.int vv0), .val (.ref b3), .val (.ref b35), .val (.int kd), .unset] [.null, (.ref b3)]))
        obtain ⟨cq111, kq111, qv111a, qv111b, qv111c⟩ := isOf hZ rfl f98
        obtain ⟨_, _, ⟨T111, L111, k111, n111⟩, -, X111, ⟨Lc111, hQ111, l111, y111, z111⟩, st111⟩ := X88.virtualBack hx (y := (⟨"com/example/coverbill/coverbill/book/Identifier", "equals", "(Ljava/lang/Object;)Z"⟩ : MethodName)) (z := (⟨"com/example/coverbill/coverbill/book/Identifier", "equals", "(Ljava/lang/Object;)Z"⟩ : MethodName)) hown (mvT hZ (hw _ (List.mem_of_getElem? (i := 47) rfl))) (mvT hZ (hw _ (List.mem_of_getElem? (i := 48) rfl))) (notFace_of_selects (args := #[]) (mvT hZ (hw _ (List.mem_of_getElem? (i := 50) rfl)))) (mvT hZ (hw _ (List.mem_of_getElem? (i := 50) rfl))) (mvT hZ (hw _ (List.mem_of_getElem? (i := 49) rfl))) (by decide) (backOf (W := 0) (rm9n l Z a0 hw [] b3 T88.heap n0 Z88) hZ (hw _ (List.mem_of_getElem? (i := 51) rfl)) (hw _ (List.mem_of_getElem? (i := 2) rfl)) (by decide) (by decide)) qv111a qv111c (g := (mkF m 81 #[.val (.int q1), .val (.int q2), .val (.int q3), .val (.int q4), .val (.int q5), .val (.int tt0), .val (.int vv0), .val (.ref b3), .val (.ref b35), .val (.int kd), .unset] [.null, (.ref b3)])) rfl (by rw [hml]; rfl) (Steps.refl _) (argsL := [.null]) (rest := []) (lenOf pd_0_8 rfl) rfl (by show 2 * 0 + _ ≤ _; exact Nat.le_of_eq rfl) (hb hby at_81) (fun _ _ => ⟨rfl, rfl, (by decide : 18 + 0 ≤ _), (by decide : 36 + 0 ≤ _)⟩)
        dsimp only [Pt.U, Pt.locs, Pt.cells, Pt.slots] at X111 l111 y111 z111 st111 hQ111
        obtain ⟨r111, rfl, hr111, N111q, e111⟩ := hQ111
        have N111 : Fr n0 L111 := by rw [l111]; exact Fr.app N88 N111q
        clear l111
        have y111' : k111 = 18 := y111
        have z111' : n111 = 36 := z111
        clear y111 z111
        subst y111' z111'
        refine own_tr st111 ?_
        show own_Go p e below K (T111.setTop (mkF m 84 #[.val (.int q1), .val (.int q2), .val (.int q3), .val (.int q4), .val (.int q5), .val (.int tt0), .val (.int vv0), .val (.ref b3), .val (.ref b35), .val (.int kd), .unset] [(.int r111)]))
        try clear X88 st111 N88 N111q
        refine own_st (fun t k => XS.ifNo X111.here hx rfl (hb hby at_84) rfl ((if0 _ _).trans (teq (hr111 : r111 = (0 : Int32))).2) k) ?_
        show own_Go p e below K (T111.setTop (mkF m 87 #[.val (.int q1), .val (.int q2), .val (.int q3), .val (.int q4), .val (.int q5), .val (.int tt0), .val (.int vv0), .val (.ref b3), .val (.ref b35), .val (.int kd), .unset] []))
        refine own_st (fun t k => XS.iconst X111.here hx rfl (hb hby at_87) k) ?_
        show own_Go p e below K (T111.setTop (mkF m 88 #[.val (.int q1), .val (.int q2), .val (.int q3), .val (.int q4), .val (.int q5), .val (.int tt0), .val (.int vv0), .val (.ref b3), .val (.ref b35), .val (.int kd), .unset] [(.int (1 : Int32))]))
        refine own_st (fun t k => XS.goto X111.here hx rfl (pc0 := 88) (pc' := 92) rfl (hb hby at_88) (by decide) (by decide) k) ?_
        show own_Go p e below K (T111.setTop (mkF m 92 #[.val (.int q1), .val (.int q2), .val (.int q3), .val (.int q4), .val (.int q5), .val (.int tt0), .val (.int vv0), .val (.ref b3), .val (.ref b35), .val (.int kd), .unset] [(.int (1 : Int32))]))
        obtain ⟨fs, hr, hrun, hended, hEW⟩ := X111.leaveW hS68 (by rw [e111]; exact f109) (v := some (.int (nar .boolean (1 : Int32)))) (fun h => by rw [Bd.returns] at h; cases h)
        refine ⟨_, retN X111 hx (t := .boolean) Bd.returns (by simp) (hb hby at_92) hr, fin _ _ _ hrun hended ?_ ⟨hEW.1, hEW.2.1, hEW.2.2.1, hEW.2.2.2.mono (by decide) (by decide)⟩⟩
        show Q0 Z q1 q2 q3 q4 q5 cs h0 n0 _ T111.heap T111.vm _
        rw [e111]
        exact ⟨rfl, N111⟩
      refine own_st (fun t k => XS.icmpYes X88.here hx rfl (pc0 := 75) (pc' := 93) rfl (hb hby at_75) rfl (feq hc75).2 (by decide) (by decide) k) ?_
      show own_Go p e below K (T88.setTop (mkF m 93 #[.val (.int q1), .val (.int q2), .val (.int q3), .val (.int q4), .val (.int q5), .val (.int tt0), .val (.int vv0), .val (.ref b3), .val (.ref b35), .val (.int kd), .unset] []))
      refine own_st (fun t k => XS.iload X88.here hx rfl (hb hby at_93) rfl k) ?_
      show own_Go p e below K (T88.setTop (mkF m 95 #[.val (.int q1), .val (.int q2), .val (.int q3), .val (.int q4), .val (.int q5), .val (.int tt0), .val (.int vv0), .val (.ref b3), .val (.ref b35), .val (.int kd), .unset] [(.int kd)]))
      refine own_st (fun t k => XS.iconst X88.here hx rfl (hb hby at_95) k) ?_
      show own_Go p e below K (T88.setTop (mkF m 96 #[.val (.int q1), .val (.int q2), .val (.int q3), .val (.int q4), .val (.int q5), .val (.int tt0), .val (.int vv0), .val (.ref b3), .val (.ref b35), .val (.int kd), .unset] [(.int (2 : Int32)), (.int kd)]))
      by_cases hc96 : kd = (2 : Int32)
      · refine own_st (fun t k => XS.icmpNo X88.here hx rfl (hb hby at_96) rfl (teq hc96).2 k) ?_
        show own_Go p e below K (T88.setTop (mkF m 99 #[.val (.int q1), .val (.int q2), .val (.int q3), .val (.int q4), .val (.int q5), .val (.int tt0), .val (.int vv0), .val (.ref b3), .val (.ref b35), .val (.int kd), .unset] []))
        refine own_st (fun t k => XS.aload X88.here hx rfl (hb hby at_99) rfl rfl k) ?_
        show own_Go p e below K (T88.setTop (mkF m 101 #[.val (.int q1), .val (.int q2), .val (.int q3), .val (.int q4), .val (.int q5), .val (.int tt0), .val (.int vv0), .val (.ref b3), .val (.ref b35), .val (.int kd), .unset] [(.ref b3)]))
        refine own_st (fun t k => XS.iloadN X88.here hx rfl (hb hby at_101) rfl k) ?_
        show own_Go p e below K (T88.setTop (mkF m 102 #[.val (.int q1), .val (.int q2), .val (.int q3), .val (.int q4), .val (.int q5), .val (.int tt0), .val (.int vv0), .val (.ref b3), .val (.ref b35), .val (.int kd), .unset] [(.int q1), (.ref b3)]))
        obtain ⟨_, _, ⟨T112, L112, k112, n112⟩, -, X112b, hSq112, hgr112, ⟨Lc112, hQ112, l112, y112, z112⟩, st112⟩ := callSS X88 hx (y := (⟨"com/example/coverbill/coverbill/book/IdentifierEqualsPinLaw", "str", "(I)Ljava/lang/String;"⟩ : MethodName)) hown (mvT hZ (hw _ (List.mem_of_getElem? (i := 3) rfl))) (mvT hZ (hw _ (List.mem_of_getElem? (i := 4) rfl))) (mvT hZ (hw _ (List.mem_of_getElem? (i := 5) rfl))) (mvT hZ (hw _ (List.mem_of_getElem? (i := 6) rfl))) (by decide) (own_backS (W := 1) (V := fun vm => own_W Z vm T88.heap) (rm1 l Z a0 hw [] q1 (cs) T88.heap n0 Z88 f89 (by assumption) (by assumption) (by assumption) (by assumption)) hZ (fun vm' w => own_W.warm (s := (s.setVm T68.vm)) f110 w) (hw _ (List.mem_of_getElem? (i := 6) rfl)) (hw _ (List.mem_of_getElem? (i := 5) rfl)) (by decide) (by decide)) (g := (mkF m 102 #[.val (.int q1), .val (.int q2), .val (.int q3), .val (.int q4), .val (.int q5), .val (.int tt0), .val (.int vv0), .val (.ref b3), .val (.ref b35), .val (.int kd), .unset] [(.int q1), (.ref b3)])) rfl (by rw [hml]; rfl) (argsL := [(.int q1)]) (rest := [(.ref b3)]) (lenOf pd_0_0 rfl) rfl (by show 2 * 0 + _ ≤ _; exact Nat.le_of_eq rfl) (hb hby at_102) (fun _ _ => ⟨rfl, rfl, (by decide : 18 + 4 ≤ _), (by decide : 36 + 8 ≤ _)⟩)
        dsimp only [Pt.U, Pt.locs, Pt.cells, Pt.slots] at X112b l112 y112 z112 st112 hQ112 hSq112 hgr112
        have X112 : Stand p l e room_1 (s.setVm T112.vm) m #[(.int q1), (.int q2), (.int q3), (.int q4), (.int q5)] below meth c T112 L112 k112 n112 := X112b
        clear X112b
        have hS112 : s.Since T112.vm T112.heap.size := hS68.trans (n₂ := T112.heap.size) hSq112 (Nat.le_trans (Nat.le_trans f109 (Nat.le_of_eq (congrArg Array.size (rfl)).symm)) hgr112)
        have hZ : Z.Warmed39 (s.setVm T112.vm).vm := State.Warmed39.trans (t := (s.setVm T68.vm)) hZ hSq112.1
        have hown : (s.setVm T112.vm).vm.findClass "com/example/coverbill/coverbill/book/IdentifierEqualsPinLaw" = some m.cls := by rw [show (s.setVm T112.vm).vm = T112.vm from rfl, hSq112.1.alike.findClass]; exact hown
        obtain ⟨r112, b_112, k_112, n_112, rfl, hr112, fr112, N112q, Kq112, p112_0, p112_1, p112_2, p112_3, pp112_0, pp112_1, pW112⟩ := hQ112
        have N112 : Fr n0 L112 := by rw [l112]; exact Fr.app N88 N112q
        clear l112
        have y112' : k112 = 22 := y112
        have z112' : n112 = 44 := z112
        clear y112 z112
        subst y112' z112'
        have ne_b3_r112 : b3 ≠ r112 := Nat.ne_of_lt (Nat.lt_of_lt_of_le f98.lt fr112)
        have ne_b35_r112 : b35 ≠ r112 := Nat.ne_of_lt (Nat.lt_of_lt_of_le p88_0.lt fr112)
        have ne_b_14_r112 : b_14 ≠ r112 := Nat.ne_of_lt (Nat.lt_of_lt_of_le f97.lt fr112)
        have ne_b_52_r112 : b_52 ≠ r112 := Nat.ne_of_lt (Nat.lt_of_lt_of_le f104.lt fr112)
        have ne_b_68_r112 : b_68 ≠ r112 := Nat.ne_of_lt (Nat.lt_of_lt_of_le f108.lt fr112)
        have ne_b_9_r112 : b_9 ≠ r112 := Nat.ne_of_lt (Nat.lt_of_lt_of_le f93.lt fr112)
        have ne_r14_r112 : r14 ≠ r112 := Nat.ne_of_lt (Nat.lt_of_lt_of_le f94.lt fr112)
        have ne_r52_r112 : r52 ≠ r112 := Nat.ne_of_lt (Nat.lt_of_lt_of_le f101.lt fr112)
        have ne_r68_r112 : r68 ≠ r112 := Nat.ne_of_lt (Nat.lt_of_lt_of_le f105.lt fr112)
        have ne_r9_r112 : r9 ≠ r112 := Nat.ne_of_lt (Nat.lt_of_lt_of_le f90.lt fr112)
        have g_r112 : n0 ≤ r112 := Nat.le_trans Z88 fr112
        have f113 : Old Z n0 T112.heap := f89.keep Kq112 all0
        have f114 : Exa Z T112.heap r9 "java/lang/String" := f90.keep Kq112
        have f115 : Fld Z T112.heap r9 "java/lang/String" "coder" "B" (.int (0 : Int32)) := f91.keep Kq112 nin0
        have f116 : Fld Z T112.heap r9 "java/lang/String" "value" "[B" (.ref b_9) := f92.keep Kq112 nin0
        have f117 : Arv Z T112.heap b_9 k_9 .byte n_9 ((own_S q1).map Value.int) (.int (0 : Int32)) := f93.keep Kq112 nin0
        have f118 : Exa Z T112.heap r14 "java/lang/String" := f94.keep Kq112
        have f119 : Fld Z T112.heap r14 "java/lang/String" "coder" "B" (.int (0 : Int32)) := f95.keep Kq112 nin0
        have f120 : Fld Z T112.heap r14 "java/lang/String" "value" "[B" (.ref b_14) := f96.keep Kq112 nin0
        have f121 : Arv Z T112.heap b_14 k_14 .byte n_14 ((own_S q2).map Value.int) (.int (0 : Int32)) := f97.keep Kq112 nin0
        have f122 : Exa Z T112.heap b3 "com/example/coverbill/coverbill/book/Identifier" := f98.keep Kq112
        have f123 : Fld Z T112.heap b3 "com/example/coverbill/coverbill/book/Identifier" "type" "Ljava/lang/String;" (.ref r9) := f99.keep Kq112 nin0
        have f124 : Fld Z T112.heap b3 "com/example/coverbill/coverbill/book/Identifier" "value" "Ljava/lang/String;" (.ref r14) := f100.keep Kq112 nin0
        have f125 : Exa Z T112.heap r52 "java/lang/String" := f101.keep Kq112
        have f126 : Fld Z T112.heap r52 "java/lang/String" "coder" "B" (.int (0 : Int32)) := f102.keep Kq112 nin0
        have f127 : Fld Z T112.heap r52 "java/lang/String" "value" "[B" (.ref b_52) := f103.keep Kq112 nin0
        have f128 : Arv Z T112.heap b_52 k_52 .byte n_52 ((own_S tt0).map Value.int) (.int (0 : Int32)) := f104.keep Kq112 nin0
        have f129 : Exa Z T112.heap r68 "java/lang/String" := f105.keep Kq112
        have f130 : Fld Z T112.heap r68 "java/lang/String" "coder" "B" (.int (0 : Int32)) := f106.keep Kq112 nin0
        have f131 : Fld Z T112.heap r68 "java/lang/String" "value" "[B" (.ref b_68) := f107.keep Kq112 nin0
        have f132 : Arv Z T112.heap b_68 k_68 .byte n_68 ((own_S vv0).map Value.int) (.int (0 : Int32)) := f108.keep Kq112 nin0
        have f133 : Exa Z T112.heap b35 "com/example/coverbill/coverbill/book/Identifier" := p88_0.keep Kq112
        have f134 : Fld Z T112.heap b35 "com/example/coverbill/coverbill/book/Identifier" "type" "Ljava/lang/String;" (.ref r52) := p88_1.keep Kq112 nin0
        have f135 : Fld Z T112.heap b35 "com/example/coverbill/coverbill/book/Identifier" "value" "Ljava/lang/String;" (.ref r68) := p88_2.keep Kq112 nin0
        have hG112 : own_G T112.heap.size T112.heap := Nat.le_refl _
        have Z112 : n0 ≤ T112.heap.size := Nat.le_trans Z88 Kq112.1
        refine own_tr st112 ?_
        show own_Go p e below K (T112.setTop (mkF m 105 #[.val (.int q1), .val (.int q2), .val (.int q3), .val (.int q4), .val (.int q5), .val (.int tt0), .val (.int vv0), .val (.ref b3), .val (.ref b35), .val (.int kd), .unset] [(.ref r112), (.ref b3)]))
        have ne_b3_b_112 : b3 ≠ b_112 := Exa.neArv f122 p112_3 (hw _ (List.mem_of_getElem? (i := 1) rfl))
        have ne_b35_b_112 : b35 ≠ b_112 := Exa.neArv f133 p112_3 (hw _ (List.mem_of_getElem? (i := 1) rfl))
        try clear X88 st112 N88 N112q f89 f90 f91 f92 f93 f94 f95 f96 f97 f98 f99 f100 f101 f102 f103 f104 f105 f106 f107 f108 p88_0 p88_1 p88_2
        obtain ⟨cq136, kq136, qv136a, qv136b, qv136c⟩ := isOf hZ rfl f122
        obtain ⟨_, _, ⟨T136, L136, k136, n136⟩, -, X136, ⟨Lc136, hQ136, l136, y136, z136⟩, st136⟩ := X112.virtualBack hx (y := (⟨"com/example/coverbill/coverbill/book/Identifier", "equals", "(Ljava/lang/Object;)Z"⟩ : MethodName)) (z := (⟨"com/example/coverbill/coverbill/book/Identifier", "equals", "(Ljava/lang/Object;)Z"⟩ : MethodName)) hown (mvT hZ (hw _ (List.mem_of_getElem? (i := 47) rfl))) (mvT hZ (hw _ (List.mem_of_getElem? (i := 48) rfl))) (notFace_of_selects (args := #[]) (mvT hZ (hw _ (List.mem_of_getElem? (i := 50) rfl)))) (mvT hZ (hw _ (List.mem_of_getElem? (i := 50) rfl))) (mvT hZ (hw _ (List.mem_of_getElem? (i := 49) rfl))) (by decide) (backOf (W := 0) (rm9s l Z a0 hw [] b3 r112 T112.heap n0 Z112 p112_0) hZ (hw _ (List.mem_of_getElem? (i := 51) rfl)) (hw _ (List.mem_of_getElem? (i := 2) rfl)) (by decide) (by decide)) qv136a qv136c (g := (mkF m 105 #[.val (.int q1), .val (.int q2), .val (.int q3), .val (.int q4), .val (.int q5), .val (.int tt0), .val (.int vv0), .val (.ref b3), .val (.ref b35), .val (.int kd), .unset] [(.ref r112), (.ref b3)])) rfl (by rw [hml]; rfl) (Steps.refl _) (argsL := [(.ref r112)]) (rest := []) (lenOf pd_0_8 rfl) rfl (by show 2 * 0 + _ ≤ _; exact Nat.le_of_eq rfl) (hb hby at_105) (fun _ _ => ⟨rfl, rfl, (by decide : 22 + 0 ≤ _), (by decide : 44 + 0 ≤ _)⟩)
        dsimp only [Pt.U, Pt.locs, Pt.cells, Pt.slots] at X136 l136 y136 z136 st136 hQ136
        obtain ⟨r136, rfl, hr136, N136q, e136⟩ := hQ136
        have N136 : Fr n0 L136 := by rw [l136]; exact Fr.app N112 N136q
        clear l136
        have y136' : k136 = 22 := y136
        have z136' : n136 = 44 := z136
        clear y136 z136
        subst y136' z136'
        refine own_tr st136 ?_
        show own_Go p e below K (T136.setTop (mkF m 108 #[.val (.int q1), .val (.int q2), .val (.int q3), .val (.int q4), .val (.int q5), .val (.int tt0), .val (.int vv0), .val (.ref b3), .val (.ref b35), .val (.int kd), .unset] [(.int r136)]))
        try clear X112 st136 N112 N136q
        refine own_st (fun t k => XS.ifNo X136.here hx rfl (hb hby at_108) rfl ((if0 _ _).trans (teq (hr136 : r136 = (0 : Int32))).2) k) ?_
        show own_Go p e below K (T136.setTop (mkF m 111 #[.val (.int q1), .val (.int q2), .val (.int q3), .val (.int q4), .val (.int q5), .val (.int tt0), .val (.int vv0), .val (.ref b3), .val (.ref b35), .val (.int kd), .unset] []))
        refine own_st (fun t k => XS.iconst X136.here hx rfl (hb hby at_111) k) ?_
        show own_Go p e below K (T136.setTop (mkF m 112 #[.val (.int q1), .val (.int q2), .val (.int q3), .val (.int q4), .val (.int q5), .val (.int tt0), .val (.int vv0), .val (.ref b3), .val (.ref b35), .val (.int kd), .unset] [(.int (1 : Int32))]))
        refine own_st (fun t k => XS.goto X136.here hx rfl (pc0 := 112) (pc' := 116) rfl (hb hby at_112) (by decide) (by decide) k) ?_
        show own_Go p e below K (T136.setTop (mkF m 116 #[.val (.int q1), .val (.int q2), .val (.int q3), .val (.int q4), .val (.int q5), .val (.int tt0), .val (.int vv0), .val (.ref b3), .val (.ref b35), .val (.int kd), .unset] [(.int (1 : Int32))]))
        obtain ⟨fs, hr, hrun, hended, hEW⟩ := X136.leaveW hS112 (by rw [e136]; exact hG112) (v := some (.int (nar .boolean (1 : Int32)))) (fun h => by rw [Bd.returns] at h; cases h)
        refine ⟨_, retN X136 hx (t := .boolean) Bd.returns (by simp) (hb hby at_116) hr, fin _ _ _ hrun hended ?_ ⟨hEW.1, hEW.2.1, hEW.2.2.1, hEW.2.2.2.mono (by decide) (by decide)⟩⟩
        show Q0 Z q1 q2 q3 q4 q5 cs h0 n0 _ T136.heap T136.vm _
        rw [e136]
        exact ⟨rfl, N136⟩
      refine own_st (fun t k => XS.icmpYes X88.here hx rfl (pc0 := 96) (pc' := 117) rfl (hb hby at_96) rfl (feq hc96).2 (by decide) (by decide) k) ?_
      show own_Go p e below K (T88.setTop (mkF m 117 #[.val (.int q1), .val (.int q2), .val (.int q3), .val (.int q4), .val (.int q5), .val (.int tt0), .val (.int vv0), .val (.ref b3), .val (.ref b35), .val (.int kd), .unset] []))
      refine own_st (fun t k => XS.iload X88.here hx rfl (hb hby at_117) rfl k) ?_
      show own_Go p e below K (T88.setTop (mkF m 119 #[.val (.int q1), .val (.int q2), .val (.int q3), .val (.int q4), .val (.int q5), .val (.int tt0), .val (.int vv0), .val (.ref b3), .val (.ref b35), .val (.int kd), .unset] [(.int kd)]))
      refine own_st (fun t k => XS.iconst X88.here hx rfl (hb hby at_119) k) ?_
      show own_Go p e below K (T88.setTop (mkF m 120 #[.val (.int q1), .val (.int q2), .val (.int q3), .val (.int q4), .val (.int q5), .val (.int tt0), .val (.int vv0), .val (.ref b3), .val (.ref b35), .val (.int kd), .unset] [(.int (3 : Int32)), (.int kd)]))
      by_cases hc120 : kd = (3 : Int32)
      · refine own_st (fun t k => XS.icmpNo X88.here hx rfl (hb hby at_120) rfl (teq hc120).2 k) ?_
        show own_Go p e below K (T88.setTop (mkF m 123 #[.val (.int q1), .val (.int q2), .val (.int q3), .val (.int q4), .val (.int q5), .val (.int tt0), .val (.int vv0), .val (.ref b3), .val (.ref b35), .val (.int kd), .unset] []))
        refine own_st (fun t k => XS.aload X88.here hx rfl (hb hby at_123) rfl rfl k) ?_
        show own_Go p e below K (T88.setTop (mkF m 125 #[.val (.int q1), .val (.int q2), .val (.int q3), .val (.int q4), .val (.int q5), .val (.int tt0), .val (.int vv0), .val (.ref b3), .val (.ref b35), .val (.int kd), .unset] [(.ref b3)]))
        refine own_st (fun t k => XS.aload X88.here hx rfl (hb hby at_125) rfl rfl k) ?_
        show own_Go p e below K (T88.setTop (mkF m 127 #[.val (.int q1), .val (.int q2), .val (.int q3), .val (.int q4), .val (.int q5), .val (.int tt0), .val (.int vv0), .val (.ref b3), .val (.ref b35), .val (.int kd), .unset] [(.ref b3), (.ref b3)]))
        obtain ⟨cq137, kq137, qv137a, qv137b, qv137c⟩ := isOf hZ rfl f98
        obtain ⟨_, _, ⟨T137, L137, k137, n137⟩, -, X137, ⟨Lc137, hQ137, l137, y137, z137⟩, st137⟩ := X88.virtualBack hx (y := (⟨"com/example/coverbill/coverbill/book/Identifier", "equals", "(Ljava/lang/Object;)Z"⟩ : MethodName)) (z := (⟨"com/example/coverbill/coverbill/book/Identifier", "equals", "(Ljava/lang/Object;)Z"⟩ : MethodName)) hown (mvT hZ (hw _ (List.mem_of_getElem? (i := 47) rfl))) (mvT hZ (hw _ (List.mem_of_getElem? (i := 48) rfl))) (notFace_of_selects (args := #[]) (mvT hZ (hw _ (List.mem_of_getElem? (i := 50) rfl)))) (mvT hZ (hw _ (List.mem_of_getElem? (i := 50) rfl))) (mvT hZ (hw _ (List.mem_of_getElem? (i := 49) rfl))) (by decide) (backOf (W := 0) (rm9 l Z a0 hw [] b3 b3 (r9) (r14) (r9) (r14) (b_9) (k_9) (n_9) (own_S q1) (b_14) (k_14) (n_14) (own_S q2) (b_9) (k_9) (n_9) (own_S q1) (b_14) (k_14) (n_14) (own_S q2) (cs) T88.heap n0 Z88 f98 f99 f100 f98 f99 f100 f90 f91 f92 f93 f94 f95 f96 f97 f90 f91 f92 f93 f94 f95 f96 f97 f89 pp9_0 pp14_0 pp9_0 pp14_0 pp9_1 pp14_1 pp9_1 pp14_1 (by assumption) (by assumption) (fun _ => rfl) (fun _ => rfl)) hZ (hw _ (List.mem_of_getElem? (i := 51) rfl)) (hw _ (List.mem_of_getElem? (i := 2) rfl)) (by decide) (by decide)) qv137a qv137c (g := (mkF m 127 #[.val (.int q1), .val (.int q2), .val (.int q3), .val (.int q4), .val (.int q5), .val (.int tt0), .val (.int vv0), .val (.ref b3), .val (.ref b35), .val (.int kd), .unset] [(.ref b3), (.ref b3)])) rfl (by rw [hml]; rfl) (Steps.refl _) (argsL := [(.ref b3)]) (rest := []) (lenOf pd_0_8 rfl) rfl (by show 2 * 0 + _ ≤ _; exact Nat.le_of_eq rfl) (hb hby at_127) (fun _ _ => ⟨rfl, rfl, (by decide : 18 + 0 ≤ _), (by decide : 36 + 0 ≤ _)⟩)
        dsimp only [Pt.U, Pt.locs, Pt.cells, Pt.slots] at X137 l137 y137 z137 st137 hQ137
        obtain ⟨r137, rfl, hr137, N137q, e137⟩ := hQ137
        have N137 : Fr n0 L137 := by rw [l137]; exact Fr.app N88 N137q
        clear l137
        have y137' : k137 = 18 := y137
        have z137' : n137 = 36 := z137
        clear y137 z137
        subst y137' z137'
        refine own_tr st137 ?_
        show own_Go p e below K (T137.setTop (mkF m 130 #[.val (.int q1), .val (.int q2), .val (.int q3), .val (.int q4), .val (.int q5), .val (.int tt0), .val (.int vv0), .val (.ref b3), .val (.ref b35), .val (.int kd), .unset] [(.int r137)]))
        try clear X88 st137 N88 N137q
        obtain ⟨fs, hr, hrun, hended, hEW⟩ := X137.leaveW hS68 (by rw [e137]; exact f109) (v := some (.int (nar .boolean r137))) (fun h => by rw [Bd.returns] at h; cases h)
        refine ⟨_, retN X137 hx (t := .boolean) Bd.returns (by simp) (hb hby at_130) hr, fin _ _ _ hrun hended ?_ ⟨hEW.1, hEW.2.1, hEW.2.2.1, hEW.2.2.2.mono (by decide) (by decide)⟩⟩
        show Q0 Z q1 q2 q3 q4 q5 cs h0 n0 _ T137.heap T137.vm _
        rw [e137]
        exact ⟨(by rw [hr137.one ⟨rfl, rfl⟩]; rfl), N137⟩
      refine own_st (fun t k => XS.icmpYes X88.here hx rfl (pc0 := 120) (pc' := 131) rfl (hb hby at_120) rfl (feq hc120).2 (by decide) (by decide) k) ?_
      show own_Go p e below K (T88.setTop (mkF m 131 #[.val (.int q1), .val (.int q2), .val (.int q3), .val (.int q4), .val (.int q5), .val (.int tt0), .val (.int vv0), .val (.ref b3), .val (.ref b35), .val (.int kd), .unset] []))
      refine own_st (fun t k => XS.iloadN X88.here hx rfl (hb hby at_131) rfl k) ?_
      show own_Go p e below K (T88.setTop (mkF m 132 #[.val (.int q1), .val (.int q2), .val (.int q3), .val (.int q4), .val (.int q5), .val (.int tt0), .val (.int vv0), .val (.ref b3), .val (.ref b35), .val (.int kd), .unset] [(.int q1)]))
      refine own_st (fun t k => XS.iload X88.here hx rfl (hb hby at_132) rfl k) ?_
      show own_Go p e below K (T88.setTop (mkF m 134 #[.val (.int q1), .val (.int q2), .val (.int q3), .val (.int q4), .val (.int q5), .val (.int tt0), .val (.int vv0), .val (.ref b3), .val (.ref b35), .val (.int kd), .unset] [(.int tt0), (.int q1)]))
      obtain ⟨_, _, ⟨T138, L138, k138, n138⟩, -, X138, ⟨Lc138, hQ138, l138, y138, z138⟩, st138⟩ := Jvm.LawKit.callS X88 hx (y := (⟨"com/example/coverbill/coverbill/book/IdentifierEqualsPinLaw", "same", "(II)Z"⟩ : MethodName)) hown (mvT hZ (hw _ (List.mem_of_getElem? (i := 44) rfl))) (mvT hZ (hw _ (List.mem_of_getElem? (i := 45) rfl))) (mvT hZ (hw _ (List.mem_of_getElem? (i := 5) rfl))) (mvT hZ (hw _ (List.mem_of_getElem? (i := 46) rfl))) (by decide) (backOf (W := 0) (rm8 l Z a0 hw [] q1 tt0 T88.heap n0 Z88) hZ (hw _ (List.mem_of_getElem? (i := 46) rfl)) (hw _ (List.mem_of_getElem? (i := 5) rfl)) (by decide) (by decide)) (g := (mkF m 134 #[.val (.int q1), .val (.int q2), .val (.int q3), .val (.int q4), .val (.int q5), .val (.int tt0), .val (.int vv0), .val (.ref b3), .val (.ref b35), .val (.int kd), .unset] [(.int tt0), (.int q1)])) rfl (by rw [hml]; rfl) (argsL := [(.int q1), (.int tt0)]) (rest := []) (lenOf pd_0_7 rfl) rfl (by show 2 * 0 + _ ≤ _; exact Nat.le_of_eq rfl) (hb hby at_134) (fun _ _ => ⟨rfl, rfl, (by decide : 18 + 0 ≤ _), (by decide : 36 + 0 ≤ _)⟩)
      dsimp only [Pt.U, Pt.locs, Pt.cells, Pt.slots] at X138 l138 y138 z138 st138 hQ138
      obtain ⟨r138, rfl, hr138, N138q, e138⟩ := hQ138
      have N138 : Fr n0 L138 := by rw [l138]; exact Fr.app N88 N138q
      clear l138
      have y138' : k138 = 18 := y138
      have z138' : n138 = 36 := z138
      clear y138 z138
      subst y138' z138'
      refine own_st st138 ?_
      show own_Go p e below K (T138.setTop (mkF m 137 #[.val (.int q1), .val (.int q2), .val (.int q3), .val (.int q4), .val (.int q5), .val (.int tt0), .val (.int vv0), .val (.ref b3), .val (.ref b35), .val (.int kd), .unset] [(.int r138)]))
      try clear X88 st138 N88 N138q
      by_cases hc137 : r138 = (0 : Int32)
      · refine own_st (fun t k => XS.ifYes X138.here hx rfl (pc0 := 137) (pc' := 153) rfl (hb hby at_137) rfl ((if0 _ _).trans (teq hc137).1) (by decide) (by decide) k) ?_
        show own_Go p e below K (T138.setTop (mkF m 153 #[.val (.int q1), .val (.int q2), .val (.int q3), .val (.int q4), .val (.int q5), .val (.int tt0), .val (.int vv0), .val (.ref b3), .val (.ref b35), .val (.int kd), .unset] []))
        refine own_st (fun t k => XS.iconst X138.here hx rfl (hb hby at_153) k) ?_
        show own_Go p e below K (T138.setTop (mkF m 154 #[.val (.int q1), .val (.int q2), .val (.int q3), .val (.int q4), .val (.int q5), .val (.int tt0), .val (.int vv0), .val (.ref b3), .val (.ref b35), .val (.int kd), .unset] [(.int (0 : Int32))]))
        refine own_st (fun t k => XS.istore X138.here hx rfl (hb hby at_154) rfl (l' := #[.val (.int q1), .val (.int q2), .val (.int q3), .val (.int q4), .val (.int q5), .val (.int tt0), .val (.int vv0), .val (.ref b3), .val (.ref b35), .val (.int kd), .val (.int (0 : Int32))]) rfl k) ?_
        show own_Go p e below K (T138.setTop (mkF m 156 #[.val (.int q1), .val (.int q2), .val (.int q3), .val (.int q4), .val (.int q5), .val (.int tt0), .val (.int vv0), .val (.ref b3), .val (.ref b35), .val (.int kd), .val (.int (0 : Int32))] []))
        refine own_st (fun t k => XS.aload X138.here hx rfl (hb hby at_156) rfl rfl k) ?_
        show own_Go p e below K (T138.setTop (mkF m 158 #[.val (.int q1), .val (.int q2), .val (.int q3), .val (.int q4), .val (.int q5), .val (.int tt0), .val (.int vv0), .val (.ref b3), .val (.ref b35), .val (.int kd), .val (.int (0 : Int32))] [(.ref b3)]))
        refine own_st (fun t k => XS.aload X138.here hx rfl (hb hby at_158) rfl rfl k) ?_
        show own_Go p e below K (T138.setTop (mkF m 160 #[.val (.int q1), .val (.int q2), .val (.int q3), .val (.int q4), .val (.int q5), .val (.int tt0), .val (.int vv0), .val (.ref b3), .val (.ref b35), .val (.int kd), .val (.int (0 : Int32))] [(.ref b35), (.ref b3)]))
        obtain ⟨cq139, kq139, qv139a, qv139b, qv139c⟩ := isOf hZ e138 f98
        obtain ⟨_, _, ⟨T139, L139, k139, n139⟩, -, X139, ⟨Lc139, hQ139, l139, y139, z139⟩, st139⟩ := X138.virtualBack hx (y := (⟨"com/example/coverbill/coverbill/book/Identifier", "equals", "(Ljava/lang/Object;)Z"⟩ : MethodName)) (z := (⟨"com/example/coverbill/coverbill/book/Identifier", "equals", "(Ljava/lang/Object;)Z"⟩ : MethodName)) hown (mvT hZ (hw _ (List.mem_of_getElem? (i := 47) rfl))) (mvT hZ (hw _ (List.mem_of_getElem? (i := 48) rfl))) (notFace_of_selects (args := #[]) (mvT hZ (hw _ (List.mem_of_getElem? (i := 50) rfl)))) (mvT hZ (hw _ (List.mem_of_getElem? (i := 50) rfl))) (mvT hZ (hw _ (List.mem_of_getElem? (i := 49) rfl))) (by decide) (backOf (W := 0) (rm9 l Z a0 hw [] b3 b35 (r9) (r14) (r52) (r68) (b_9) (k_9) (n_9) (own_S q1) (b_14) (k_14) (n_14) (own_S q2) (b_52) (k_52) (n_52) (own_S tt0) (b_68) (k_68) (n_68) (own_S vv0) (cs) T88.heap n0 Z88 f98 f99 f100 p88_0 p88_1 p88_2 f90 f91 f92 f93 f94 f95 f96 f97 f101 f102 f103 f104 f105 f106 f107 f108 f89 pp9_0 pp14_0 pp52_0 pp68_0 pp9_1 pp14_1 pp52_1 pp68_1 (by assumption) (by assumption) (fun q => absurd q ne_r9_r52) (fun q => absurd q ne_r14_r68)) hZ (hw _ (List.mem_of_getElem? (i := 51) rfl)) (hw _ (List.mem_of_getElem? (i := 2) rfl)) (by decide) (by decide)) qv139a qv139c (g := (mkF m 160 #[.val (.int q1), .val (.int q2), .val (.int q3), .val (.int q4), .val (.int q5), .val (.int tt0), .val (.int vv0), .val (.ref b3), .val (.ref b35), .val (.int kd), .val (.int (0 : Int32))] [(.ref b35), (.ref b3)])) rfl (by rw [hml]; rfl) (Steps.refl _) (argsL := [(.ref b35)]) (rest := []) (lenOf pd_0_8 rfl) rfl (by show 2 * 0 + _ ≤ _; exact Nat.le_of_eq rfl) (hb hby at_160) (fun _ _ => ⟨rfl, e138, (by decide : 18 + 0 ≤ _), (by decide : 36 + 0 ≤ _)⟩)
        dsimp only [Pt.U, Pt.locs, Pt.cells, Pt.slots] at X139 l139 y139 z139 st139 hQ139
        obtain ⟨r139, rfl, hr139, N139q, e139⟩ := hQ139
        have N139 : Fr n0 L139 := by rw [l139]; exact Fr.app N138 N139q
        clear l139
        have y139' : k139 = 18 := y139
        have z139' : n139 = 36 := z139
        clear y139 z139
        subst y139' z139'
        refine own_tr st139 ?_
        show own_Go p e below K (T139.setTop (mkF m 163 #[.val (.int q1), .val (.int q2), .val (.int q3), .val (.int q4), .val (.int q5), .val (.int tt0), .val (.int vv0), .val (.ref b3), .val (.ref b35), .val (.int kd), .val (.int (0 : Int32))] [(.int r139)]))
        try clear X138 e138 st139 N138 N139q
        refine own_st (fun t k => XS.iload X139.here hx rfl (hb hby at_163) rfl k) ?_
        show own_Go p e below K (T139.setTop (mkF m 165 #[.val (.int q1), .val (.int q2), .val (.int q3), .val (.int q4), .val (.int q5), .val (.int tt0), .val (.int vv0), .val (.ref b3), .val (.ref b35), .val (.int kd), .val (.int (0 : Int32))] [(.int (0 : Int32)), (.int r139)]))
        refine own_st (fun t k => XS.icmpNo X139.here hx rfl (hb hby at_165) rfl (teq (own_B.zero hr139 (fun q => hr138.fails hc137 q.1) : r139 = (0 : Int32))).2 k) ?_
        show own_Go p e below K (T139.setTop (mkF m 168 #[.val (.int q1), .val (.int q2), .val (.int q3), .val (.int q4), .val (.int q5), .val (.int tt0), .val (.int vv0), .val (.ref b3), .val (.ref b35), .val (.int kd), .val (.int (0 : Int32))] []))
        refine own_st (fun t k => XS.aload X139.here hx rfl (hb hby at_168) rfl rfl k) ?_
        show own_Go p e below K (T139.setTop (mkF m 170 #[.val (.int q1), .val (.int q2), .val (.int q3), .val (.int q4), .val (.int q5), .val (.int tt0), .val (.int vv0), .val (.ref b3), .val (.ref b35), .val (.int kd), .val (.int (0 : Int32))] [(.ref b35)]))
        refine own_st (fun t k => XS.aload X139.here hx rfl (hb hby at_170) rfl rfl k) ?_
        show own_Go p e below K (T139.setTop (mkF m 172 #[.val (.int q1), .val (.int q2), .val (.int q3), .val (.int q4), .val (.int q5), .val (.int tt0), .val (.int vv0), .val (.ref b3), .val (.ref b35), .val (.int kd), .val (.int (0 : Int32))] [(.ref b3), (.ref b35)]))
        obtain ⟨cq140, kq140, qv140a, qv140b, qv140c⟩ := isOf hZ e139 p88_0
        obtain ⟨_, _, ⟨T140, L140, k140, n140⟩, -, X140, ⟨Lc140, hQ140, l140, y140, z140⟩, st140⟩ := X139.virtualBack hx (y := (⟨"com/example/coverbill/coverbill/book/Identifier", "equals", "(Ljava/lang/Object;)Z"⟩ : MethodName)) (z := (⟨"com/example/coverbill/coverbill/book/Identifier", "equals", "(Ljava/lang/Object;)Z"⟩ : MethodName)) hown (mvT hZ (hw _ (List.mem_of_getElem? (i := 47) rfl))) (mvT hZ (hw _ (List.mem_of_getElem? (i := 48) rfl))) (notFace_of_selects (args := #[]) (mvT hZ (hw _ (List.mem_of_getElem? (i := 50) rfl)))) (mvT hZ (hw _ (List.mem_of_getElem? (i := 50) rfl))) (mvT hZ (hw _ (List.mem_of_getElem? (i := 49) rfl))) (by decide) (backOf (W := 0) (rm9 l Z a0 hw [] b35 b3 (r52) (r68) (r9) (r14) (b_52) (k_52) (n_52) (own_S tt0) (b_68) (k_68) (n_68) (own_S vv0) (b_9) (k_9) (n_9) (own_S q1) (b_14) (k_14) (n_14) (own_S q2) (cs) T88.heap n0 Z88 p88_0 p88_1 p88_2 f98 f99 f100 f101 f102 f103 f104 f105 f106 f107 f108 f90 f91 f92 f93 f94 f95 f96 f97 f89 pp52_0 pp68_0 pp9_0 pp14_0 pp52_1 pp68_1 pp9_1 pp14_1 (by assumption) (by assumption) (fun q => absurd q (Ne.symm ne_r9_r52)) (fun q => absurd q (Ne.symm ne_r14_r68))) hZ (hw _ (List.mem_of_getElem? (i := 51) rfl)) (hw _ (List.mem_of_getElem? (i := 2) rfl)) (by decide) (by decide)) qv140a qv140c (g := (mkF m 172 #[.val (.int q1), .val (.int q2), .val (.int q3), .val (.int q4), .val (.int q5), .val (.int tt0), .val (.int vv0), .val (.ref b3), .val (.ref b35), .val (.int kd), .val (.int (0 : Int32))] [(.ref b3), (.ref b35)])) rfl (by rw [hml]; rfl) (Steps.refl _) (argsL := [(.ref b3)]) (rest := []) (lenOf pd_0_8 rfl) rfl (by show 2 * 0 + _ ≤ _; exact Nat.le_of_eq rfl) (hb hby at_172) (fun _ _ => ⟨rfl, e139, (by decide : 18 + 0 ≤ _), (by decide : 36 + 0 ≤ _)⟩)
        dsimp only [Pt.U, Pt.locs, Pt.cells, Pt.slots] at X140 l140 y140 z140 st140 hQ140
        obtain ⟨r140, rfl, hr140, N140q, e140⟩ := hQ140
        have N140 : Fr n0 L140 := by rw [l140]; exact Fr.app N139 N140q
        clear l140
        have y140' : k140 = 18 := y140
        have z140' : n140 = 36 := z140
        clear y140 z140
        subst y140' z140'
        refine own_tr st140 ?_
        show own_Go p e below K (T140.setTop (mkF m 175 #[.val (.int q1), .val (.int q2), .val (.int q3), .val (.int q4), .val (.int q5), .val (.int tt0), .val (.int vv0), .val (.ref b3), .val (.ref b35), .val (.int kd), .val (.int (0 : Int32))] [(.int r140)]))
        try clear X139 e139 st140 N139 N140q
        refine own_st (fun t k => XS.iload X140.here hx rfl (hb hby at_175) rfl k) ?_
        show own_Go p e below K (T140.setTop (mkF m 177 #[.val (.int q1), .val (.int q2), .val (.int q3), .val (.int q4), .val (.int q5), .val (.int tt0), .val (.int vv0), .val (.ref b3), .val (.ref b35), .val (.int kd), .val (.int (0 : Int32))] [(.int (0 : Int32)), (.int r140)]))
        refine own_st (fun t k => XS.icmpNo X140.here hx rfl (hb hby at_177) rfl (teq (own_B.zero hr140 (fun q => hr138.fails hc137 (q.1).symm) : r140 = (0 : Int32))).2 k) ?_
        show own_Go p e below K (T140.setTop (mkF m 180 #[.val (.int q1), .val (.int q2), .val (.int q3), .val (.int q4), .val (.int q5), .val (.int tt0), .val (.int vv0), .val (.ref b3), .val (.ref b35), .val (.int kd), .val (.int (0 : Int32))] []))
        refine own_st (fun t k => XS.iconst X140.here hx rfl (hb hby at_180) k) ?_
        show own_Go p e below K (T140.setTop (mkF m 181 #[.val (.int q1), .val (.int q2), .val (.int q3), .val (.int q4), .val (.int q5), .val (.int tt0), .val (.int vv0), .val (.ref b3), .val (.ref b35), .val (.int kd), .val (.int (0 : Int32))] [(.int (1 : Int32))]))
        refine own_st (fun t k => XS.goto X140.here hx rfl (pc0 := 181) (pc' := 185) rfl (hb hby at_181) (by decide) (by decide) k) ?_
        show own_Go p e below K (T140.setTop (mkF m 185 #[.val (.int q1), .val (.int q2), .val (.int q3), .val (.int q4), .val (.int q5), .val (.int tt0), .val (.int vv0), .val (.ref b3), .val (.ref b35), .val (.int kd), .val (.int (0 : Int32))] [(.int (1 : Int32))]))
        obtain ⟨fs, hr, hrun, hended, hEW⟩ := X140.leaveW hS68 (by rw [e140]; exact f109) (v := some (.int (nar .boolean (1 : Int32)))) (fun h => by rw [Bd.returns] at h; cases h)
        refine ⟨_, retN X140 hx (t := .boolean) Bd.returns (by simp) (hb hby at_185) hr, fin _ _ _ hrun hended ?_ ⟨hEW.1, hEW.2.1, hEW.2.2.1, hEW.2.2.2.mono (by decide) (by decide)⟩⟩
        show Q0 Z q1 q2 q3 q4 q5 cs h0 n0 _ T140.heap T140.vm _
        rw [e140]
        exact ⟨rfl, N140⟩
      refine own_st (fun t k => XS.ifNo X138.here hx rfl (hb hby at_137) rfl ((if0 _ _).trans (feq hc137).1) k) ?_
      show own_Go p e below K (T138.setTop (mkF m 140 #[.val (.int q1), .val (.int q2), .val (.int q3), .val (.int q4), .val (.int q5), .val (.int tt0), .val (.int vv0), .val (.ref b3), .val (.ref b35), .val (.int kd), .unset] []))
      refine own_st (fun t k => XS.iloadN X138.here hx rfl (hb hby at_140) rfl k) ?_
      show own_Go p e below K (T138.setTop (mkF m 141 #[.val (.int q1), .val (.int q2), .val (.int q3), .val (.int q4), .val (.int q5), .val (.int tt0), .val (.int vv0), .val (.ref b3), .val (.ref b35), .val (.int kd), .unset] [(.int q2)]))
      refine own_st (fun t k => XS.iload X138.here hx rfl (hb hby at_141) rfl k) ?_
      show own_Go p e below K (T138.setTop (mkF m 143 #[.val (.int q1), .val (.int q2), .val (.int q3), .val (.int q4), .val (.int q5), .val (.int tt0), .val (.int vv0), .val (.ref b3), .val (.ref b35), .val (.int kd), .unset] [(.int vv0), (.int q2)]))
      obtain ⟨_, _, ⟨T141, L141, k141, n141⟩, -, X141, ⟨Lc141, hQ141, l141, y141, z141⟩, st141⟩ := Jvm.LawKit.callS X138 hx (y := (⟨"com/example/coverbill/coverbill/book/IdentifierEqualsPinLaw", "same", "(II)Z"⟩ : MethodName)) hown (mvT hZ (hw _ (List.mem_of_getElem? (i := 44) rfl))) (mvT hZ (hw _ (List.mem_of_getElem? (i := 45) rfl))) (mvT hZ (hw _ (List.mem_of_getElem? (i := 5) rfl))) (mvT hZ (hw _ (List.mem_of_getElem? (i := 46) rfl))) (by decide) (backOf (W := 0) (rm8 l Z a0 hw [] q2 vv0 T88.heap n0 Z88) hZ (hw _ (List.mem_of_getElem? (i := 46) rfl)) (hw _ (List.mem_of_getElem? (i := 5) rfl)) (by decide) (by decide)) (g := (mkF m 143 #[.val (.int q1), .val (.int q2), .val (.int q3), .val (.int q4), .val (.int q5), .val (.int tt0), .val (.int vv0), .val (.ref b3), .val (.ref b35), .val (.int kd), .unset] [(.int vv0), (.int q2)])) rfl (by rw [hml]; rfl) (argsL := [(.int q2), (.int vv0)]) (rest := []) (lenOf pd_0_7 rfl) rfl (by show 2 * 0 + _ ≤ _; exact Nat.le_of_eq rfl) (hb hby at_143) (fun _ _ => ⟨rfl, e138, (by decide : 18 + 0 ≤ _), (by decide : 36 + 0 ≤ _)⟩)
      dsimp only [Pt.U, Pt.locs, Pt.cells, Pt.slots] at X141 l141 y141 z141 st141 hQ141
      obtain ⟨r141, rfl, hr141, N141q, e141⟩ := hQ141
      have N141 : Fr n0 L141 := by rw [l141]; exact Fr.app N138 N141q
      clear l141
      have y141' : k141 = 18 := y141
      have z141' : n141 = 36 := z141
      clear y141 z141
      subst y141' z141'
      refine own_st st141 ?_
      show own_Go p e below K (T141.setTop (mkF m 146 #[.val (.int q1), .val (.int q2), .val (.int q3), .val (.int q4), .val (.int q5), .val (.int tt0), .val (.int vv0), .val (.ref b3), .val (.ref b35), .val (.int kd), .unset] [(.int r141)]))
      try clear X138 e138 st141 N138 N141q
      by_cases hc146 : r141 = (0 : Int32)
      · refine own_st (fun t k => XS.ifYes X141.here hx rfl (pc0 := 146) (pc' := 153) rfl (hb hby at_146) rfl ((if0 _ _).trans (teq hc146).1) (by decide) (by decide) k) ?_
        show own_Go p e below K (T141.setTop (mkF m 153 #[.val (.int q1), .val (.int q2), .val (.int q3), .val (.int q4), .val (.int q5), .val (.int tt0), .val (.int vv0), .val (.ref b3), .val (.ref b35), .val (.int kd), .unset] []))
        refine own_st (fun t k => XS.iconst X141.here hx rfl (hb hby at_153) k) ?_
        show own_Go p e below K (T141.setTop (mkF m 154 #[.val (.int q1), .val (.int q2), .val (.int q3), .val (.int q4), .val (.int q5), .val (.int tt0), .val (.int vv0), .val (.ref b3), .val (.ref b35), .val (.int kd), .unset] [(.int (0 : Int32))]))
        refine own_st (fun t k => XS.istore X141.here hx rfl (hb hby at_154) rfl (l' := #[.val (.int q1), .val (.int q2), .val (.int q3), .val (.int q4), .val (.int q5), .val (.int tt0), .val (.int vv0), .val (.ref b3), .val (.ref b35), .val (.int kd), .val (.int (0 : Int32))]) rfl k) ?_
        show own_Go p e below K (T141.setTop (mkF m 156 #[.val (.int q1), .val (.int q2), .val (.int q3), .val (.int q4), .val (.int q5), .val (.int tt0), .val (.int vv0), .val (.ref b3), .val (.ref b35), .val (.int kd), .val (.int (0 : Int32))] []))
        refine own_st (fun t k => XS.aload X141.here hx rfl (hb hby at_156) rfl rfl k) ?_
        show own_Go p e below K (T141.setTop (mkF m 158 #[.val (.int q1), .val (.int q2), .val (.int q3), .val (.int q4), .val (.int q5), .val (.int tt0), .val (.int vv0), .val (.ref b3), .val (.ref b35), .val (.int kd), .val (.int (0 : Int32))] [(.ref b3)]))
        refine own_st (fun t k => XS.aload X141.here hx rfl (hb hby at_158) rfl rfl k) ?_
        show own_Go p e below K (T141.setTop (mkF m 160 #[.val (.int q1), .val (.int q2), .val (.int q3), .val (.int q4), .val (.int q5), .val (.int tt0), .val (.int vv0), .val (.ref b3), .val (.ref b35), .val (.int kd), .val (.int (0 : Int32))] [(.ref b35), (.ref b3)]))
        obtain ⟨cq142, kq142, qv142a, qv142b, qv142c⟩ := isOf hZ e141 f98
        obtain ⟨_, _, ⟨T142, L142, k142, n142⟩, -, X142, ⟨Lc142, hQ142, l142, y142, z142⟩, st142⟩ := X141.virtualBack hx (y := (⟨"com/example/coverbill/coverbill/book/Identifier", "equals", "(Ljava/lang/Object;)Z"⟩ : MethodName)) (z := (⟨"com/example/coverbill/coverbill/book/Identifier", "equals", "(Ljava/lang/Object;)Z"⟩ : MethodName)) hown (mvT hZ (hw _ (List.mem_of_getElem? (i := 47) rfl))) (mvT hZ (hw _ (List.mem_of_getElem? (i := 48) rfl))) (notFace_of_selects (args := #[]) (mvT hZ (hw _ (List.mem_of_getElem? (i := 50) rfl)))) (mvT hZ (hw _ (List.mem_of_getElem? (i := 50) rfl))) (mvT hZ (hw _ (List.mem_of_getElem? (i := 49) rfl))) (by decide) (backOf (W := 0) (rm9 l Z a0 hw [] b3 b35 (r9) (r14) (r52) (r68) (b_9) (k_9) (n_9) (own_S q1) (b_14) (k_14) (n_14) (own_S q2) (b_52) (k_52) (n_52) (own_S tt0) (b_68) (k_68) (n_68) (own_S vv0) (cs) T88.heap n0 Z88 f98 f99 f100 p88_0 p88_1 p88_2 f90 f91 f92 f93 f94 f95 f96 f97 f101 f102 f103 f104 f105 f106 f107 f108 f89 pp9_0 pp14_0 pp52_0 pp68_0 pp9_1 pp14_1 pp52_1 pp68_1 (by assumption) (by assumption) (fun q => absurd q ne_r9_r52) (fun q => absurd q ne_r14_r68)) hZ (hw _ (List.mem_of_getElem? (i := 51) rfl)) (hw _ (List.mem_of_getElem? (i := 2) rfl)) (by decide) (by decide)) qv142a qv142c (g := (mkF m 160 #[.val (.int q1), .val (.int q2), .val (.int q3), .val (.int q4), .val (.int q5), .val (.int tt0), .val (.int vv0), .val (.ref b3), .val (.ref b35), .val (.int kd), .val (.int (0 : Int32))] [(.ref b35), (.ref b3)])) rfl (by rw [hml]; rfl) (Steps.refl _) (argsL := [(.ref b35)]) (rest := []) (lenOf pd_0_8 rfl) rfl (by show 2 * 0 + _ ≤ _; exact Nat.le_of_eq rfl) (hb hby at_160) (fun _ _ => ⟨rfl, e141, (by decide : 18 + 0 ≤ _), (by decide : 36 + 0 ≤ _)⟩)
        dsimp only [Pt.U, Pt.locs, Pt.cells, Pt.slots] at X142 l142 y142 z142 st142 hQ142
        obtain ⟨r142, rfl, hr142, N142q, e142⟩ := hQ142
        have N142 : Fr n0 L142 := by rw [l142]; exact Fr.app N141 N142q
        clear l142
        have y142' : k142 = 18 := y142
        have z142' : n142 = 36 := z142
        clear y142 z142
        subst y142' z142'
        refine own_tr st142 ?_
        show own_Go p e below K (T142.setTop (mkF m 163 #[.val (.int q1), .val (.int q2), .val (.int q3), .val (.int q4), .val (.int q5), .val (.int tt0), .val (.int vv0), .val (.ref b3), .val (.ref b35), .val (.int kd), .val (.int (0 : Int32))] [(.int r142)]))
        try clear X141 e141 st142 N141 N142q
        refine own_st (fun t k => XS.iload X142.here hx rfl (hb hby at_163) rfl k) ?_
        show own_Go p e below K (T142.setTop (mkF m 165 #[.val (.int q1), .val (.int q2), .val (.int q3), .val (.int q4), .val (.int q5), .val (.int tt0), .val (.int vv0), .val (.ref b3), .val (.ref b35), .val (.int kd), .val (.int (0 : Int32))] [(.int (0 : Int32)), (.int r142)]))
        refine own_st (fun t k => XS.icmpNo X142.here hx rfl (hb hby at_165) rfl (teq (own_B.zero hr142 (fun q => hr141.fails hc146 q.2) : r142 = (0 : Int32))).2 k) ?_
        show own_Go p e below K (T142.setTop (mkF m 168 #[.val (.int q1), .val (.int q2), .val (.int q3), .val (.int q4), .val (.int q5), .val (.int tt0), .val (.int vv0), .val (.ref b3), .val (.ref b35), .val (.int kd), .val (.int (0 : Int32))] []))
        refine own_st (fun t k => XS.aload X142.here hx rfl (hb hby at_168) rfl rfl k) ?_
        show own_Go p e below K (T142.setTop (mkF m 170 #[.val (.int q1), .val (.int q2), .val (.int q3), .val (.int q4), .val (.int q5), .val (.int tt0), .val (.int vv0), .val (.ref b3), .val (.ref b35), .val (.int kd), .val (.int (0 : Int32))] [(.ref b35)]))
        refine own_st (fun t k => XS.aload X142.here hx rfl (hb hby at_170) rfl rfl k) ?_
        show own_Go p e below K (T142.setTop (mkF m 172 #[.val (.int q1), .val (.int q2), .val (.int q3), .val (.int q4), .val (.int q5), .val (.int tt0), .val (.int vv0), .val (.ref b3), .val (.ref b35), .val (.int kd), .val (.int (0 : Int32))] [(.ref b3), (.ref b35)]))
        obtain ⟨cq143, kq143, qv143a, qv143b, qv143c⟩ := isOf hZ e142 p88_0
        obtain ⟨_, _, ⟨T143, L143, k143, n143⟩, -, X143, ⟨Lc143, hQ143, l143, y143, z143⟩, st143⟩ := X142.virtualBack hx (y := (⟨"com/example/coverbill/coverbill/book/Identifier", "equals", "(Ljava/lang/Object;)Z"⟩ : MethodName)) (z := (⟨"com/example/coverbill/coverbill/book/Identifier", "equals", "(Ljava/lang/Object;)Z"⟩ : MethodName)) hown (mvT hZ (hw _ (List.mem_of_getElem? (i := 47) rfl))) (mvT hZ (hw _ (List.mem_of_getElem? (i := 48) rfl))) (notFace_of_selects (args := #[]) (mvT hZ (hw _ (List.mem_of_getElem? (i := 50) rfl)))) (mvT hZ (hw _ (List.mem_of_getElem? (i := 50) rfl))) (mvT hZ (hw _ (List.mem_of_getElem? (i := 49) rfl))) (by decide) (backOf (W := 0) (rm9 l Z a0 hw [] b35 b3 (r52) (r68) (r9) (r14) (b_52) (k_52) (n_52) (own_S tt0) (b_68) (k_68) (n_68) (own_S vv0) (b_9) (k_9) (n_9) (own_S q1) (b_14) (k_14) (n_14) (own_S q2) (cs) T88.heap n0 Z88 p88_0 p88_1 p88_2 f98 f99 f100 f101 f102 f103 f104 f105 f106 f107 f108 f90 f91 f92 f93 f94 f95 f96 f97 f89 pp52_0 pp68_0 pp9_0 pp14_0 pp52_1 pp68_1 pp9_1 pp14_1 (by assumption) (by assumption) (fun q => absurd q (Ne.symm ne_r9_r52)) (fun q => absurd q (Ne.symm ne_r14_r68))) hZ (hw _ (List.mem_of_getElem? (i := 51) rfl)) (hw _ (List.mem_of_getElem? (i := 2) rfl)) (by decide) (by decide)) qv143a qv143c (g := (mkF m 172 #[.val (.int q1), .val (.int q2), .val (.int q3), .val (.int q4), .val (.int q5), .val (.int tt0), .val (.int vv0), .val (.ref b3), .val (.ref b35), .val (.int kd), .val (.int (0 : Int32))] [(.ref b3), (.ref b35)])) rfl (by rw [hml]; rfl) (Steps.refl _) (argsL := [(.ref b3)]) (rest := []) (lenOf pd_0_8 rfl) rfl (by show 2 * 0 + _ ≤ _; exact Nat.le_of_eq rfl) (hb hby at_172) (fun _ _ => ⟨rfl, e142, (by decide : 18 + 0 ≤ _), (by decide : 36 + 0 ≤ _)⟩)
        dsimp only [Pt.U, Pt.locs, Pt.cells, Pt.slots] at X143 l143 y143 z143 st143 hQ143
        obtain ⟨r143, rfl, hr143, N143q, e143⟩ := hQ143
        have N143 : Fr n0 L143 := by rw [l143]; exact Fr.app N142 N143q
        clear l143
        have y143' : k143 = 18 := y143
        have z143' : n143 = 36 := z143
        clear y143 z143
        subst y143' z143'
        refine own_tr st143 ?_
        show own_Go p e below K (T143.setTop (mkF m 175 #[.val (.int q1), .val (.int q2), .val (.int q3), .val (.int q4), .val (.int q5), .val (.int tt0), .val (.int vv0), .val (.ref b3), .val (.ref b35), .val (.int kd), .val (.int (0 : Int32))] [(.int r143)]))
        try clear X142 e142 st143 N142 N143q
        refine own_st (fun t k => XS.iload X143.here hx rfl (hb hby at_175) rfl k) ?_
        show own_Go p e below K (T143.setTop (mkF m 177 #[.val (.int q1), .val (.int q2), .val (.int q3), .val (.int q4), .val (.int q5), .val (.int tt0), .val (.int vv0), .val (.ref b3), .val (.ref b35), .val (.int kd), .val (.int (0 : Int32))] [(.int (0 : Int32)), (.int r143)]))
        refine own_st (fun t k => XS.icmpNo X143.here hx rfl (hb hby at_177) rfl (teq (own_B.zero hr143 (fun q => hr141.fails hc146 (q.2).symm) : r143 = (0 : Int32))).2 k) ?_
        show own_Go p e below K (T143.setTop (mkF m 180 #[.val (.int q1), .val (.int q2), .val (.int q3), .val (.int q4), .val (.int q5), .val (.int tt0), .val (.int vv0), .val (.ref b3), .val (.ref b35), .val (.int kd), .val (.int (0 : Int32))] []))
        refine own_st (fun t k => XS.iconst X143.here hx rfl (hb hby at_180) k) ?_
        show own_Go p e below K (T143.setTop (mkF m 181 #[.val (.int q1), .val (.int q2), .val (.int q3), .val (.int q4), .val (.int q5), .val (.int tt0), .val (.int vv0), .val (.ref b3), .val (.ref b35), .val (.int kd), .val (.int (0 : Int32))] [(.int (1 : Int32))]))
        refine own_st (fun t k => XS.goto X143.here hx rfl (pc0 := 181) (pc' := 185) rfl (hb hby at_181) (by decide) (by decide) k) ?_
        show own_Go p e below K (T143.setTop (mkF m 185 #[.val (.int q1), .val (.int q2), .val (.int q3), .val (.int q4), .val (.int q5), .val (.int tt0), .val (.int vv0), .val (.ref b3), .val (.ref b35), .val (.int kd), .val (.int (0 : Int32))] [(.int (1 : Int32))]))
        obtain ⟨fs, hr, hrun, hended, hEW⟩ := X143.leaveW hS68 (by rw [e143]; exact f109) (v := some (.int (nar .boolean (1 : Int32)))) (fun h => by rw [Bd.returns] at h; cases h)
        refine ⟨_, retN X143 hx (t := .boolean) Bd.returns (by simp) (hb hby at_185) hr, fin _ _ _ hrun hended ?_ ⟨hEW.1, hEW.2.1, hEW.2.2.1, hEW.2.2.2.mono (by decide) (by decide)⟩⟩
        show Q0 Z q1 q2 q3 q4 q5 cs h0 n0 _ T143.heap T143.vm _
        rw [e143]
        exact ⟨rfl, N143⟩
      refine own_st (fun t k => XS.ifNo X141.here hx rfl (hb hby at_146) rfl ((if0 _ _).trans (feq hc146).1) k) ?_
      show own_Go p e below K (T141.setTop (mkF m 149 #[.val (.int q1), .val (.int q2), .val (.int q3), .val (.int q4), .val (.int q5), .val (.int tt0), .val (.int vv0), .val (.ref b3), .val (.ref b35), .val (.int kd), .unset] []))
      refine own_st (fun t k => XS.iconst X141.here hx rfl (hb hby at_149) k) ?_
      show own_Go p e below K (T141.setTop (mkF m 150 #[.val (.int q1), .val (.int q2), .val (.int q3), .val (.int q4), .val (.int q5), .val (.int tt0), .val (.int vv0), .val (.ref b3), .val (.ref b35), .val (.int kd), .unset] [(.int (1 : Int32))]))
      refine own_st (fun t k => XS.goto X141.here hx rfl (pc0 := 150) (pc' := 154) rfl (hb hby at_150) (by decide) (by decide) k) ?_
      show own_Go p e below K (T141.setTop (mkF m 154 #[.val (.int q1), .val (.int q2), .val (.int q3), .val (.int q4), .val (.int q5), .val (.int tt0), .val (.int vv0), .val (.ref b3), .val (.ref b35), .val (.int kd), .unset] [(.int (1 : Int32))]))
      refine own_st (fun t k => XS.istore X141.here hx rfl (hb hby at_154) rfl (l' := #[.val (.int q1), .val (.int q2), .val (.int q3), .val (.int q4), .val (.int q5), .val (.int tt0), .val (.int vv0), .val (.ref b3), .val (.ref b35), .val (.int kd), .val (.int (1 : Int32))]) rfl k) ?_
      show own_Go p e below K (T141.setTop (mkF m 156 #[.val (.int q1), .val (.int q2), .val (.int q3), .val (.int q4), .val (.int q5), .val (.int tt0), .val (.int vv0), .val (.ref b3), .val (.ref b35), .val (.int kd), .val (.int (1 : Int32))] []))
      refine own_st (fun t k => XS.aload X141.here hx rfl (hb hby at_156) rfl rfl k) ?_
      show own_Go p e below K (T141.setTop (mkF m 158 #[.val (.int q1), .val (.int q2), .val (.int q3), .val (.int q4), .val (.int q5), .val (.int tt0), .val (.int vv0), .val (.ref b3), .val (.ref b35), .val (.int kd), .val (.int (1 : Int32))] [(.ref b3)]))
      refine own_st (fun t k => XS.aload X141.here hx rfl (hb hby at_158) rfl rfl k) ?_
      show own_Go p e below K (T141.setTop (mkF m 160 #[.val (.int q1), .val (.int q2), .val (.int q3), .val (.int q4), .val (.int q5), .val (.int tt0), .val (.int vv0), .val (.ref b3), .val (.ref b35), .val (.int kd), .val (.int (1 : Int32))] [(.ref b35), (.ref b3)]))
      obtain ⟨cq144, kq144, qv144a, qv144b, qv144c⟩ := isOf hZ e141 f98
      obtain ⟨_, _, ⟨T144, L144, k144, n144⟩, -, X144, ⟨Lc144, hQ144, l144, y144, z144⟩, st144⟩ := X141.virtualBack hx (y := (⟨"com/example/coverbill/coverbill/book/Identifier", "equals", "(Ljava/lang/Object;)Z"⟩ : MethodName)) (z := (⟨"com/example/coverbill/coverbill/book/Identifier", "equals", "(Ljava/lang/Object;)Z"⟩ : MethodName)) hown (mvT hZ (hw _ (List.mem_of_getElem? (i := 47) rfl))) (mvT hZ (hw _ (List.mem_of_getElem? (i := 48) rfl))) (notFace_of_selects (args := #[]) (mvT hZ (hw _ (List.mem_of_getElem? (i := 50) rfl)))) (mvT hZ (hw _ (List.mem_of_getElem? (i := 50) rfl))) (mvT hZ (hw _ (List.mem_of_getElem? (i := 49) rfl))) (by decide) (backOf (W := 0) (rm9 l Z a0 hw [] b3 b35 (r9) (r14) (r52) (r68) (b_9) (k_9) (n_9) (own_S q1) (b_14) (k_14) (n_14) (own_S q2) (b_52) (k_52) (n_52) (own_S tt0) (b_68) (k_68) (n_68) (own_S vv0) (cs) T88.heap n0 Z88 f98 f99 f100 p88_0 p88_1 p88_2 f90 f91 f92 f93 f94 f95 f96 f97 f101 f102 f103 f104 f105 f106 f107 f108 f89 pp9_0 pp14_0 pp52_0 pp68_0 pp9_1 pp14_1 pp52_1 pp68_1 (by assumption) (by assumption) (fun q => absurd q ne_r9_r52) (fun q => absurd q ne_r14_r68)) hZ (hw _ (List.mem_of_getElem? (i := 51) rfl)) (hw _ (List.mem_of_getElem? (i := 2) rfl)) (by decide) (by decide)) qv144a qv144c (g := (mkF m 160 #[.val (.int q1), .val (.int q2), .val (.int q3), .val (.int q4), .val (.int q5), .val (.int tt0), .val (.int vv0), .val (.ref b3), .val (.ref b35), .val (.int kd), .val (.int (1 : Int32))] [(.ref b35), (.ref b3)])) rfl (by rw [hml]; rfl) (Steps.refl _) (argsL := [(.ref b35)]) (rest := []) (lenOf pd_0_8 rfl) rfl (by show 2 * 0 + _ ≤ _; exact Nat.le_of_eq rfl) (hb hby at_160) (fun _ _ => ⟨rfl, e141, (by decide : 18 + 0 ≤ _), (by decide : 36 + 0 ≤ _)⟩)
      dsimp only [Pt.U, Pt.locs, Pt.cells, Pt.slots] at X144 l144 y144 z144 st144 hQ144
      obtain ⟨r144, rfl, hr144, N144q, e144⟩ := hQ144
      have N144 : Fr n0 L144 := by rw [l144]; exact Fr.app N141 N144q
      clear l144
      have y144' : k144 = 18 := y144
      have z144' : n144 = 36 := z144
      clear y144 z144
      subst y144' z144'
      refine own_tr st144 ?_
      show own_Go p e below K (T144.setTop (mkF m 163 #[.val (.int q1), .val (.int q2), .val (.int q3), .val (.int q4), .val (.int q5), .val (.int tt0), .val (.int vv0), .val (.ref b3), .val (.ref b35), .val (.int kd), .val (.int (1 : Int32))] [(.int r144)]))
      try clear X141 e141 st144 N141 N144q
      refine own_st (fun t k => XS.iload X144.here hx rfl (hb hby at_163) rfl k) ?_
      show own_Go p e below K (T144.setTop (mkF m 165 #[.val (.int q1), .val (.int q2), .val (.int q3), .val (.int q4), .val (.int q5), .val (.int tt0), .val (.int vv0), .val (.ref b3), .val (.ref b35), .val (.int kd), .val (.int (1 : Int32))] [(.int (1 : Int32)), (.int r144)]))
      refine own_st (fun t k => XS.icmpNo X144.here hx rfl (hb hby at_165) rfl (teq (own_B.one hr144 ⟨hr138.holds hc137, hr141.holds hc146⟩ : r144 = (1 : Int32))).2 k) ?_
      show own_Go p e below K (T144.setTop (mkF m 168 #[.val (.int q1), .val (.int q2), .val (.int q3), .val (.int q4), .val (.int q5), .val (.int tt0), .val (.int vv0), .val (.ref b3), .val (.ref b35), .val (.int kd), .val (.int (1 : Int32))] []))
      refine own_st (fun t k => XS.aload X144.here hx rfl (hb hby at_168) rfl rfl k) ?_
      show own_Go p e below K (T144.setTop (mkF m 170 #[.val (.int q1), .val (.int q2), .val (.int q3), .val (.int q4), .val (.int q5), .val (.int tt0), .val (.int vv0), .val (.ref b3), .val (.ref b35), .val (.int kd), .val (.int (1 : Int32))] [(.ref b35)]))
      refine own_st (fun t k => XS.aload X144.here hx rfl (hb hby at_170) rfl rfl k) ?_
      show own_Go p e below K (T144.setTop (mkF m 172 #[.val (.int q1), .val (.int q2), .val (.int q3), .val (.int q4), .val (.int q5), .val (.int tt0), .val (.int vv0), .val (.ref b3), .val (.ref b35), .val (.int kd), .val (.int (1 : Int32))] [(.ref b3), (.ref b35)]))
      obtain ⟨cq145, kq145, qv145a, qv145b, qv145c⟩ := isOf hZ e144 p88_0
      obtain ⟨_, _, ⟨T145, L145, k145, n145⟩, -, X145, ⟨Lc145, hQ145, l145, y145, z145⟩, st145⟩ := X144.virtualBack hx (y := (⟨"com/example/coverbill/coverbill/book/Identifier", "equals", "(Ljava/lang/Object;)Z"⟩ : MethodName)) (z := (⟨"com/example/coverbill/coverbill/book/Identifier", "equals", "(Ljava/lang/Object;)Z"⟩ : MethodName)) hown (mvT hZ (hw _ (List.mem_of_getElem? (i := 47) rfl))) (mvT hZ (hw _ (List.mem_of_getElem? (i := 48) rfl))) (notFace_of_selects (args := #[]) (mvT hZ (hw _ (List.mem_of_getElem? (i := 50) rfl)))) (mvT hZ (hw _ (List.mem_of_getElem? (i := 50) rfl))) (mvT hZ (hw _ (List.mem_of_getElem? (i := 49) rfl))) (by decide) (backOf (W := 0) (rm9 l Z a0 hw [] b35 b3 (r52) (r68) (r9) (r14) (b_52) (k_52) (n_52) (own_S tt0) (b_68) (k_68) (n_68) (own_S vv0) (b_9) (k_9) (n_9) (own_S q1) (b_14) (k_14) (n_14) (own_S q2) (cs) T88.heap n0 Z88 p88_0 p88_1 p88_2 f98 f99 f100 f101 f102 f103 f104 f105 f106 f107 f108 f90 f91 f92 f93 f94 f95 f96 f97 f89 pp52_0 pp68_0 pp9_0 pp14_0 pp52_1 pp68_1 pp9_1 pp14_1 (by assumption) (by assumption) (fun q => absurd q (Ne.symm ne_r9_r52)) (fun q => absurd q (Ne.symm ne_r14_r68))) hZ (hw _ (List.mem_of_getElem? (i := 51) rfl)) (hw _ (List.mem_of_getElem? (i := 2) rfl)) (by decide) (by decide)) qv145a qv145c (g := (mkF m 172 #[.val (.int q1), .val (.int q2), .val (.int q3), .val (.int q4), .val (.int q5), .val (.int tt0), .val (.int vv0), .val (.ref b3), .val (.ref b35), .val (.int kd), .val (.int (1 : Int32))] [(.ref b3), (.ref b35)])) rfl (by rw [hml]; rfl) (Steps.refl _) (argsL := [(.ref b3)]) (rest := []) (lenOf pd_0_8 rfl) rfl (by show 2 * 0 + _ ≤ _; exact Nat.le_of_eq rfl) (hb hby at_172) (fun _ _ => ⟨rfl, e144, (by decide : 18 + 0 ≤ _), (by decide : 36 + 0 ≤ _)⟩)
      dsimp only [Pt.U, Pt.locs, Pt.cells, Pt.slots] at X145 l145 y145 z145 st145 hQ145
      obtain ⟨r145, rfl, hr145, N145q, e145⟩ := hQ145
      have N145 : Fr n0 L145 := by rw [l145]; exact Fr.app N144 N145q
      clear l145
      have y145' : k145 = 18 := y145
      have z145' : n145 = 36 := z145
      clear y145 z145
      subst y145' z145'
      refine own_tr st145 ?_
      show own_Go p e below K (T145.setTop (mkF m 175 #[.val (.int q1), .val (.int q2), .val (.int q3), .val (.int q4), .val (.int q5), .val (.int tt0), .val (.int vv0), .val (.ref b3), .val (.ref b35), .val (.int kd), .val (.int (1 : Int32))] [(.int r145)]))
      try clear X144 e144 st145 N144 N145q
      refine own_st (fun t k => XS.iload X145.here hx rfl (hb hby at_175) rfl k) ?_
      show own_Go p e below K (T145.setTop (mkF m 177 #[.val (.int q1), .val (.int q2), .val (.int q3), .val (.int q4), .val (.int q5), .val (.int tt0), .val (.int vv0), .val (.ref b3), .val (.ref b35), .val (.int kd), .val (.int (1 : Int32))] [(.int (1 : Int32)), (.int r145)]))
      refine own_st (fun t k => XS.icmpNo X145.here hx rfl (hb hby at_177) rfl (teq (own_B.one hr145 ⟨(hr138.holds hc137).symm, (hr141.holds hc146).symm⟩ : r145 = (1 : Int32))).2 k) ?_
      show own_Go p e below K (T145.setTop (mkF m 180 #[.val (.int q1), .val (.int q2), .val (.int q3), .val (.int q4), .val (.int q5), .val (.int tt0), .val (.int vv0), .val (.ref b3), .val (.ref b35), .val (.int kd), .val (.int (1 : Int32))] []))
      refine own_st (fun t k => XS.iconst X145.here hx rfl (hb hby at_180) k) ?_
      show own_Go p e below K (T145.setTop (mkF m 181 #[.val (.int q1), .val (.int q2), .val (.int q3), .val (.int q4), .val (.int q5), .val (.int tt0), .val (.int vv0), .val (.ref b3), .val (.ref b35), .val (.int kd), .val (.int (1 : Int32))] [(.int (1 : Int32))]))
      refine own_st (fun t k => XS.goto X145.here hx rfl (pc0 := 181) (pc' := 185) rfl (hb hby at_181) (by decide) (by decide) k) ?_
      show own_Go p e below K (T145.setTop (mkF m 185 #[.val (.int q1), .val (.int q2), .val (.int q3), .val (.int q4), .val (.int q5), .val (.int tt0), .val (.int vv0), .val (.ref b3), .val (.ref b35), .val (.int kd), .val (.int (1 : Int32))] [(.int (1 : Int32))]))
      obtain ⟨fs, hr, hrun, hended, hEW⟩ := X145.leaveW hS68 (by rw [e145]; exact f109) (v := some (.int (nar .boolean (1 : Int32)))) (fun h => by rw [Bd.returns] at h; cases h)
      refine ⟨_, retN X145 hx (t := .boolean) Bd.returns (by simp) (hb hby at_185) hr, fin _ _ _ hrun hended ?_ ⟨hEW.1, hEW.2.1, hEW.2.2.1, hEW.2.2.2.mono (by decide) (by decide)⟩⟩
      show Q0 Z q1 q2 q3 q4 q5 cs h0 n0 _ T145.heap T145.vm _
      rw [e145]
      exact ⟨rfl, N145⟩
    by_cases hc18 : m2 = (0 : Int32)
    · refine own_st (fun t k => XS.ifYes X1.here hx rfl (pc0 := 18) (pc' := 25) rfl (hb hby at_18) rfl ((if0 _ _).trans (teq hc18).1) (by decide) (by decide) k) ?_
      show own_Go p e below K (T1.setTop (mkF m 25 #[.val (.int q1), .val (.int q2), .val (.int q3), .val (.int q4), .val (.int q5), .val (.int tt0), .unset, .unset, .unset, .unset, .unset] []))
      refine own_st (fun t k => XS.iloadN X1.here hx rfl (hb hby at_25) rfl k) ?_
      show own_Go p e below K (T1.setTop (mkF m 26 #[.val (.int q1), .val (.int q2), .val (.int q3), .val (.int q4), .val (.int q5), .val (.int tt0), .unset, .unset, .unset, .unset, .unset] [(.int q4)]))
      exact J26 T1 _ X1 e1 N1 (q4) trivial
    refine own_st (fun t k => XS.ifNo X1.here hx rfl (hb hby at_18) rfl ((if0 _ _).trans (feq hc18).1) k) ?_
    show own_Go p e below K (T1.setTop (mkF m 21 #[.val (.int q1), .val (.int q2), .val (.int q3), .val (.int q4), .val (.int q5), .val (.int tt0), .unset, .unset, .unset, .unset, .unset] []))
    refine own_st (fun t k => XS.iloadN X1.here hx rfl (hb hby at_21) rfl k) ?_
    show own_Go p e below K (T1.setTop (mkF m 22 #[.val (.int q1), .val (.int q2), .val (.int q3), .val (.int q4), .val (.int q5), .val (.int tt0), .unset, .unset, .unset, .unset, .unset] [(.int q2)]))
    refine own_st (fun t k => XS.goto X1.here hx rfl (pc0 := 22) (pc' := 26) rfl (hb hby at_22) (by decide) (by decide) k) ?_
    show own_Go p e below K (T1.setTop (mkF m 26 #[.val (.int q1), .val (.int q2), .val (.int q3), .val (.int q4), .val (.int q5), .val (.int tt0), .unset, .unset, .unset, .unset, .unset] [(.int q2)]))
    exact J26 T1 _ X1 e1 N1 (q2) trivial
  by_cases hc4 : m1 = (0 : Int32)
  · refine own_st (fun t k => XS.ifYes X0.here hx rfl (pc0 := 4) (pc' := 11) rfl (hb hby at_4) rfl ((if0 _ _).trans (teq hc4).1) (by decide) (by decide) k) ?_
    show own_Go p e below K (s₁.setTop (mkF m 11 #[.val (.int q1), .val (.int q2), .val (.int q3), .val (.int q4), .val (.int q5), .unset, .unset, .unset, .unset, .unset, .unset] []))
    refine own_st (fun t k => XS.iloadN X0.here hx rfl (hb hby at_11) rfl k) ?_
    show own_Go p e below K (s₁.setTop (mkF m 12 #[.val (.int q1), .val (.int q2), .val (.int q3), .val (.int q4), .val (.int q5), .unset, .unset, .unset, .unset, .unset, .unset] [(.int q3)]))
    exact J12 s₁ _ X0 e0 N0 (q3) trivial
  refine own_st (fun t k => XS.ifNo X0.here hx rfl (hb hby at_4) rfl ((if0 _ _).trans (feq hc4).1) k) ?_
  show own_Go p e below K (s₁.setTop (mkF m 7 #[.val (.int q1), .val (.int q2), .val (.int q3), .val (.int q4), .val (.int q5), .unset, .unset, .unset, .unset, .unset, .unset] []))
  refine own_st (fun t k => XS.iloadN X0.here hx rfl (hb hby at_7) rfl k) ?_
  show own_Go p e below K (s₁.setTop (mkF m 8 #[.val (.int q1), .val (.int q2), .val (.int q3), .val (.int q4), .val (.int q5), .unset, .unset, .unset, .unset, .unset, .unset] [(.int q1)]))
  refine own_st (fun t k => XS.goto X0.here hx rfl (pc0 := 8) (pc' := 12) rfl (hb hby at_8) (by decide) (by decide) k) ?_
  show own_Go p e below K (s₁.setTop (mkF m 12 #[.val (.int q1), .val (.int q2), .val (.int q3), .val (.int q4), .val (.int q5), .unset, .unset, .unset, .unset, .unset, .unset] [(.int q1)]))
  exact J12 s₁ _ X0 e0 N0 (q1) trivial
set_option maxRecDepth 65536 in
set_option maxHeartbeats 40000000 in
theorem comes_1 {Post : Tables → Env → Array Value → State → Outcome → State → Prop} (hpost : ∀ tb e args s v u, (limb_1_1.after args s (.returned v) u = true ∧ limb_1_2.after args s (.returned v) u = true ∧ True) → ReturnedEndW s (.returned v) u (Jvm.fieldLocs frame_1_writes args s ++ Jvm.arrayLocs frame_1_arrays args s ++ Jvm.staticLocs frame_1_statics s) 48 1216 → Post tb e args s (.returned v) u) :
    ArmFor flags0 classFile x code maxLocals ret World_1 tables_1 room_1 Calls_1 rest_1 Pre_1 Post := by
  intro l hfl _ _ p e ha hc hk s m args below hf hA hF happ hP
  obtain ⟨hcalls, hrest, hpre⟩ := hP
  obtain ⟨-, -, -, hnamed, -, -, -, hat⟩ := (Spec.applies_iff hf).mp happ
  obtain ⟨hg, hn⟩ := and_e (Cond.before_iff.mp (show (Jvm.Cond.and given_1 narrow_1).before args s = true from hpre))
  obtain ⟨g1, g2⟩ := and_e hg
  obtain ⟨g3, g4⟩ := and_e g2
  obtain ⟨g5, g6⟩ := and_e g4
  obtain ⟨g7, g8⟩ := and_e g6
  obtain ⟨g9, g10⟩ := and_e g8
  obtain ⟨w0, w1, w2, w3, w4, rfl⟩ : ∃ w0 w1 w2 w3 w4 : Value, args = #[w0, w1, w2, w3, w4] := by
    have hs : args.size = 5 := by simpa [Cond.value, given_1] using g1
    obtain ⟨L⟩ := args
    match L, hs with
    | [w0, w1, w2, w3, w4], _ => exact ⟨w0, w1, w2, w3, w4, rfl⟩
  have hw := fun d (hd : d ∈ tables_1) => atoms_spec (ws := Jvm.Cond.code x code maxLocals ret :: tables_1) hat d (List.mem_cons_of_mem _ hd)
  have hfit : Fit s := fun {y c} hc i hi => by
    obtain ⟨ha, rfl⟩ := Array.getElem?_eq_some_iff.mp hc
    have q := List.all_eq_true.mp ((Array.all_eq_true_iff_forall_mem.mp hF) _ (Array.getElem_mem ha)) i (List.mem_range.mpr hi)
    simpa [Array.getElem?_eq_getElem hi] using q
  obtain ⟨hsets, hown0⟩ := atoms_of _ (rest_1_c_eq ▸ (show rest_1_c.before _ s = true from hrest))
  have hr0 := Cond.before_iff.mp hown0
  obtain ⟨i0, ei0⟩ := is_v g3
  obtain rfl : w0 = (.int i0) := Option.some.inj ei0
  obtain ⟨i1, ei1⟩ := is_v g5
  obtain rfl : w1 = (.int i1) := Option.some.inj ei1
  obtain ⟨i2, ei2⟩ := is_v g7
  obtain rfl : w2 = (.int i2) := Option.some.inj ei2
  obtain ⟨i3, ei3⟩ := is_v g9
  obtain rfl : w3 = (.int i3) := Option.some.inj ei3
  obtain ⟨i4, ei4⟩ := is_v g10
  obtain rfl : w4 = (.int i4) := Option.some.inj ei4
  obtain ⟨cs, evS⟩ := is_v (Cond.before_iff.mp (hsets _ (List.mem_of_getElem? (i := 1) rfl)))
  have SC := Sta.start evS (Or.inl (hsets _ (List.mem_of_getElem? (i := 0) rfl)))
  have hcW : Jvm.Lit.compactW.before _ s = true := hsets _ (List.mem_of_getElem? (i := 2) rfl)
  have hcs : ¬ cs = (0 : Int32) := fun q => by subst q; simp only [Jvm.Lit.compactW, Cond.before, Cond.holds, Cond.value, evS] at hcW; simp [Term.eval] at hcW
  have hcH : Jvm.Lit.constHeld s "java/lang/String" 7 := hcalls.1 ("java/lang/String", 7) (List.mem_singleton.mpr rfl)
  obtain ⟨n, o, h1, h2, h3, _, L, rfl, ⟨rfl, N⟩, hq⟩ := rm0 l s _ hw tables_1 i0 i1 i2 i3 i4 cs s.heap s.heap.size (Nat.le_refl _) (Old.start s) SC hcs hcH hcW p e ha hc hk s m _ below hf ((Spec.applies_iff_loose hf).mp happ).1 ⟨rfl, State.Warmed39.refl s, rfl, Or.inl IB.start⟩ trivial
  refine ⟨n, _, h1, h2, h3, hpost _ _ _ _ _ _ ⟨Cond.after_iff.mpr rfl, Cond.after_iff.mpr (eq_i res_at (Term.int_eval (1)) rfl), trivial⟩ ⟨hq.1, hq.2.1, hq.2.2.1, (hq.2.2.2.sift fun y hy => Or.inr (N y hy)).mono (by decide) (by decide)⟩⟩
theorem main_1_1 : Claimed_1_1 := comes_1 fun _ _ _ _ _ _ h hF => ⟨h.1, hF⟩
theorem main_1_2 : Claimed_1_2 := comes_1 fun _ _ _ _ _ _ h hF => ⟨h.2.1, hF⟩
end Jvm.Pilot.@@N@@
namespace Jvm.Pilot.@@N@@
open Jvm Jvm.ClassFile Sem Op Lib Jvm.Free Jvm.Stand Jvm.Pilot.@@N@@.Jvm.D
/-! MADE BY PROGRAM (witnessworld.py) out of the Statement's table words and the real class files: 21 classes; the members and pool entries that the words name. The judged class is class 1, her method 4. -/
namespace start1
open Jvm.ClassFile
def u (s : String) : CpInfo := .utf8 (stringToUtf16 s)
/-- a pool by its gaps: so many unusable entries, then the entry; so many at the end -/
def gap : Nat → List CpInfo → List CpInfo
  | 0, r => r
  | n + 1, r => .unusable :: gap n r
def poolList (es : List (Nat × CpInfo)) (last : Nat) : List CpInfo := es.foldr (fun e r => gap e.1 (e.2 :: r)) (gap last [])
def pool (es : List (Nat × CpInfo)) (last : Nat) : Array CpInfo := ⟨poolList es last⟩
def fileOf (pool : Array CpInfo) (this : Nat) (attrs : Array Attribute := #[]) (ms : Array MethodInfo := #[]) (fl : Nat := 33) (sup : Nat := 0) (ifs : Array Nat := #[]) (fds : Array FieldInfo := #[]) : ClassFile where
  minorVersion := 0
  majorVersion := 65
  constantPool := pool
  accessFlags := fl
  thisClass := this
  superClass := sup
  interfaces := ifs
  fields := fds
  methods := ms
  attributes := attrs
def plain (name : String) (sup : Option ClassId) : Class where
  name := name
  kind := .ordinary
  loader := none
  accessFlags := 33
  super := sup
  interfaces := #[]
  cf := none
  fields := #[]
  methods := #[]
  instanceTypes := #[]
  staticTypes := #[]
  resolved := #[]
  callSites := []
  init := .initialized
  statics := none
  mirror := none

def pool0 : Array CpInfo := pool [(5, u "<init>"), (0, u "()V"), (1, .class_ 10), (1, u "java/lang/Object")] 113

def k0c0 : Code := { maxStack := 0, maxLocals := 1, code := object_method_1_code, exceptionTable := #[], attributes := #[] }
def k0m0 : Method := { name := "<init>", desc := "()V", sig := { parameters := [], returnType := none }, accessFlags := 1, code := some k0c0 }
/-- java/lang/Object -/
def k0 : Class := { plain "java/lang/Object" none with
  accessFlags := 33
  interfaces := #[]
  cf := some (fileOf pool0 8 #[] #[{ accessFlags := 1, nameIndex := 5, descriptorIndex := 6, attributes := #[] }] 33 0 #[] #[])
  fields := #[]
  methods := #[k0m0]
  instanceTypes := #[]
  staticTypes := #[]
  resolved := Array.replicate 124 none
  statics := none }

def pool1 : Array CpInfo := pool [(2, .class_ 4), (1, u "java/lang/Object"), (0, u "<init>"), (0, u "()V"), (0, .methodref 8 9), (0, .class_ 10), (0, .nameAndType 11 12), (0, u "java/lang/Math"), (0, u "min"), (0, u "(II)I"), (0, .methodref 14 15), (0, .class_ 16), (0, .nameAndType 17 18), (0, u "com/example/coverbill/coverbill/book/IdentifierEqualsPinLaw"), (0, u "len"), (0, u "(I)I"), (0, .class_ 20), (0, u "java/lang/String"), (0, .methodref 19 22), (0, .nameAndType 5 23), (0, u "([C)V"), (0, .methodref 19 25), (0, .nameAndType 26 27), (0, u "valueOf"), (0, u "(C)Ljava/lang/String;"), (0, .class_ 29), (0, u "com/example/coverbill/coverbill/book/Identifier"), (0, .methodref 14 31), (0, .nameAndType 32 33), (0, u "str"), (0, u "(I)Ljava/lang/String;"), (0, .methodref 28 35), (0, .nameAndType 5 36), (0, u "(Ljava/lang/String;Ljava/lang/String;)V"), (0, .methodref 28 38), (0, .nameAndType 39 40), (0, u "equals"), (0, u "(Ljava/lang/Object;)Z"), (0, .methodref 14 42), (0, .nameAndType 43 44), (0, u "same"), (0, u "(II)Z"), (3, u "law"), (0, u "(IIIII)Z")] 2

def k1m0 : Method := { name := "<init>", desc := "()V", sig := { parameters := [], returnType := none }, accessFlags := 1, code := none }
def k1c1 : Code := { maxStack := 2, maxLocals := 1, code := method_2_code, exceptionTable := #[], attributes := #[] }
def k1m1 : Method := { name := "len", desc := "(I)I", sig := { parameters := [.int], returnType := some .int }, accessFlags := 10, code := some k1c1 }
def k1c2 : Code := { maxStack := 6, maxLocals := 4, code := method_3_code, exceptionTable := #[], attributes := #[] }
def k1m2 : Method := { name := "str", desc := "(I)Ljava/lang/String;", sig := { parameters := [.int], returnType := some (.object "java/lang/String") }, accessFlags := 10, code := some k1c2 }
def k1c3 : Code := { maxStack := 3, maxLocals := 3, code := method_4_code, exceptionTable := #[], attributes := #[] }
def k1m3 : Method := { name := "same", desc := "(II)Z", sig := { parameters := [.int, .int], returnType := some .boolean }, accessFlags := 10, code := some k1c3 }
def k1c4 : Code := { maxStack := 4, maxLocals := 11, code := code, exceptionTable := #[], attributes := #[] }
def k1m4 : Method := { name := "law", desc := "(IIIII)Z", sig := { parameters := [.int, .int, .int, .int, .int], returnType := some .boolean }, accessFlags := 9, code := some k1c4 }
/-- com/example/coverbill/coverbill/book/IdentifierEqualsPinLaw -/
def k1 : Class := { plain "com/example/coverbill/coverbill/book/IdentifierEqualsPinLaw" (some 0) with
  accessFlags := 49
  interfaces := #[]
  cf := some (fileOf pool1 14 #[] #[{ accessFlags := 1, nameIndex := 5, descriptorIndex := 6, attributes := #[] }, { accessFlags := 10, nameIndex := 17, descriptorIndex := 18, attributes := #[] }, { accessFlags := 10, nameIndex := 32, descriptorIndex := 33, attributes := #[] }, { accessFlags := 10, nameIndex := 43, descriptorIndex := 44, attributes := #[] }, { accessFlags := 9, nameIndex := 48, descriptorIndex := 49, attributes := #[] }] 49 2 #[] #[])
  fields := #[]
  methods := #[k1m0, k1m1, k1m2, k1m3, k1m4]
  instanceTypes := #[]
  staticTypes := #[]
  resolved := Array.replicate 52 none
  statics := none }

def pool2 : Array CpInfo := pool [(1, .methodref 2 3), (0, .class_ 4), (0, .nameAndType 5 6), (0, u "java/lang/Object"), (0, u "<init>"), (0, u "()V"), (0, .fieldref 8 9), (0, .class_ 10), (0, .nameAndType 11 12), (0, u "com/example/coverbill/coverbill/book/Identifier"), (0, u "type"), (0, u "Ljava/lang/String;"), (0, .fieldref 8 14), (0, .nameAndType 15 12), (0, u "value"), (0, .methodref 17 18), (0, .class_ 19), (0, .nameAndType 20 21), (0, u "java/lang/String"), (0, u "equals"), (0, u "(Ljava/lang/Object;)Z"), (10, u "(Ljava/lang/String;Ljava/lang/String;)V")] 24

def k2c0 : Code := { maxStack := 2, maxLocals := 3, code := prog_18_method_1_code, exceptionTable := #[], attributes := #[] }
def k2m0 : Method := { name := "<init>", desc := "(Ljava/lang/String;Ljava/lang/String;)V", sig := { parameters := [(.object "java/lang/String"), (.object "java/lang/String")], returnType := none }, accessFlags := 1, code := some k2c0 }
def k2c1 : Code := { maxStack := 2, maxLocals := 3, code := prog_18_method_4_code, exceptionTable := #[], attributes := #[] }
def k2m1 : Method := { name := "equals", desc := "(Ljava/lang/Object;)Z", sig := { parameters := [(.object "java/lang/Object")], returnType := some .boolean }, accessFlags := 1, code := some k2c1 }
/-- com/example/coverbill/coverbill/book/Identifier -/
def k2 : Class := { plain "com/example/coverbill/coverbill/book/Identifier" (some 0) with
  accessFlags := 49
  interfaces := #[]
  cf := some (fileOf pool2 8 #[] #[{ accessFlags := 1, nameIndex := 5, descriptorIndex := 32, attributes := #[] }, { accessFlags := 1, nameIndex := 20, descriptorIndex := 21, attributes := #[] }] 49 2 #[] #[{ accessFlags := 18, nameIndex := 11, descriptorIndex := 12, attributes := #[] }, { accessFlags := 18, nameIndex := 15, descriptorIndex := 12, attributes := #[] }])
  fields := #[{ name := "type", type := (.object "java/lang/String"), accessFlags := 18, slot := 0, constantValue := 0 }, { name := "value", type := (.object "java/lang/String"), accessFlags := 18, slot := 1, constantValue := 0 }]
  methods := #[k2m0, k2m1]
  instanceTypes := #[(.object "java/lang/String"), (.object "java/lang/String")]
  staticTypes := #[]
  resolved := Array.replicate 57 none
  statics := none }

def pool3 : Array CpInfo := pool [(1, .class_ 2), (0, u "java/lang/Math"), (1, .class_ 6), (1, u "java/lang/Object"), (0, u "<init>"), (0, u "()V"), (89, .class_ 100), (1, u "java/lang/Math$RandomNumberGeneratorHolder"), (71, u "negativeZeroFloatBits"), (0, u "J"), (2, u "negativeZeroDoubleBits"), (24, u "min"), (43, u "$assertionsDisabled"), (0, u "Z"), (88, u "(II)I"), (2, u "twoToTheDoubleScaleDown"), (0, u "D"), (4, u "twoToTheDoubleScaleUp"), (9, u "E"), (3, u "PI"), (2, u "TAU"), (2, u "DEGREES_TO_RADIANS"), (0, u "RADIANS_TO_DEGREES")] 94

def k3m0 : Method := { name := "<init>", desc := "()V", sig := { parameters := [], returnType := none }, accessFlags := 2, code := none }
def k3c1 : Code := { maxStack := 2, maxLocals := 2, code := jdk_29_method_69_code, exceptionTable := #[], attributes := #[] }
def k3m1 : Method := { name := "min", desc := "(II)I", sig := { parameters := [.int, .int], returnType := some .int }, accessFlags := 9, code := some k3c1 }
/-- java/lang/Math -/
def k3 : Class := { plain "java/lang/Math" (some 0) with
  accessFlags := 49
  interfaces := #[]
  cf := some (fileOf pool3 1 #[.nestMembers #[98]] #[{ accessFlags := 2, nameIndex := 7, descriptorIndex := 8, attributes := #[] }, { accessFlags := 9, nameIndex := 201, descriptorIndex := 335, attributes := #[] }] 49 4 #[] #[{ accessFlags := 25, nameIndex := 354, descriptorIndex := 339, attributes := #[] }, { accessFlags := 25, nameIndex := 358, descriptorIndex := 339, attributes := #[] }, { accessFlags := 25, nameIndex := 361, descriptorIndex := 339, attributes := #[] }, { accessFlags := 26, nameIndex := 364, descriptorIndex := 339, attributes := #[] }, { accessFlags := 26, nameIndex := 365, descriptorIndex := 339, attributes := #[] }, { accessFlags := 26, nameIndex := 172, descriptorIndex := 173, attributes := #[] }, { accessFlags := 26, nameIndex := 176, descriptorIndex := 173, attributes := #[] }, { accessFlags := 8, nameIndex := 344, descriptorIndex := 339, attributes := #[] }, { accessFlags := 8, nameIndex := 338, descriptorIndex := 339, attributes := #[] }, { accessFlags := 4120, nameIndex := 245, descriptorIndex := 246, attributes := #[] }])
  fields := #[{ name := "E", type := .double, accessFlags := 25, slot := 0, constantValue := 0 }, { name := "PI", type := .double, accessFlags := 25, slot := 1, constantValue := 0 }, { name := "TAU", type := .double, accessFlags := 25, slot := 2, constantValue := 0 }, { name := "DEGREES_TO_RADIANS", type := .double, accessFlags := 26, slot := 3, constantValue := 0 }, { name := "RADIANS_TO_DEGREES", type := .double, accessFlags := 26, slot := 4, constantValue := 0 }, { name := "negativeZeroFloatBits", type := .long, accessFlags := 26, slot := 5, constantValue := 0 }, { name := "negativeZeroDoubleBits", type := .long, accessFlags := 26, slot := 6, constantValue := 0 }, { name := "twoToTheDoubleScaleUp", type := .double, accessFlags := 8, slot := 7, constantValue := 0 }, { name := "twoToTheDoubleScaleDown", type := .double, accessFlags := 8, slot := 8, constantValue := 0 }, { name := "$assertionsDisabled", type := .boolean, accessFlags := 4120, slot := 9, constantValue := 0 }]
  methods := #[k3m0, k3m1]
  instanceTypes := #[]
  staticTypes := #[.double, .double, .double, .double, .double, .long, .long, .double, .double, .boolean]
  resolved := Array.replicate 460 none
  statics := none }

def pool4 : Array CpInfo := pool [(1, .class_ 2), (0, u "java/io/Serializable"), (0, .class_ 4), (0, u "java/lang/Object")] 2

/-- java/io/Serializable -/
def k4 : Class := { plain "java/io/Serializable" (some 0) with
  accessFlags := 1537
  interfaces := #[]
  cf := some (fileOf pool4 1 #[] #[] 1537 3 #[] #[])
  fields := #[]
  methods := #[]
  instanceTypes := #[]
  staticTypes := #[]
  resolved := Array.replicate 7 none
  statics := none }

def pool5 : Array CpInfo := pool [(1, .class_ 2), (0, u "java/lang/Comparable"), (0, .class_ 4), (0, u "java/lang/Object")] 7

/-- java/lang/Comparable -/
def k5 : Class := { plain "java/lang/Comparable" (some 0) with
  accessFlags := 1537
  interfaces := #[]
  cf := some (fileOf pool5 1 #[] #[] 1537 3 #[] #[])
  fields := #[]
  methods := #[]
  instanceTypes := #[]
  staticTypes := #[]
  resolved := Array.replicate 12 none
  statics := none }

def pool6 : Array CpInfo := pool [(2, .class_ 4), (1, u "java/lang/CharSequence"), (42, .class_ 48), (0, u "java/lang/CharSequence$1CodePointIterator"), (10, .class_ 60), (0, u "java/lang/CharSequence$1CharIterator"), (5, .class_ 67), (0, u "java/lang/Object")] 63

/-- java/lang/CharSequence -/
def k6 : Class := { plain "java/lang/CharSequence" (some 0) with
  accessFlags := 1537
  interfaces := #[]
  cf := some (fileOf pool6 2 #[.nestMembers #[47, 59]] #[] 1537 66 #[] #[])
  fields := #[]
  methods := #[]
  instanceTypes := #[]
  staticTypes := #[]
  resolved := Array.replicate 131 none
  statics := none }

def pool7 : Array CpInfo := pool [(1, .class_ 2), (0, u "java/lang/constant/Constable"), (0, .class_ 4), (0, u "java/lang/Object")] 6

/-- java/lang/constant/Constable -/
def k7 : Class := { plain "java/lang/constant/Constable" (some 0) with
  accessFlags := 1537
  interfaces := #[]
  cf := some (fileOf pool7 1 #[] #[] 1537 3 #[] #[])
  fields := #[]
  methods := #[]
  instanceTypes := #[]
  staticTypes := #[]
  resolved := Array.replicate 11 none
  statics := none }

def pool8 : Array CpInfo := pool [(1, .class_ 2), (0, u "java/lang/constant/ConstantDesc"), (0, .class_ 4), (0, u "java/lang/Object")] 32

/-- java/lang/constant/ConstantDesc -/
def k8 : Class := { plain "java/lang/constant/ConstantDesc" (some 0) with
  accessFlags := 1537
  interfaces := #[]
  cf := some (fileOf pool8 1 #[] #[] 1537 3 #[] #[])
  fields := #[]
  methods := #[]
  instanceTypes := #[]
  staticTypes := #[]
  resolved := Array.replicate 37 none
  statics := none }

def pool9 : Array CpInfo := pool [(1, .methodref 2 3), (0, .class_ 4), (0, .nameAndType 5 6), (0, u "java/lang/Object"), (0, u "<init>"), (0, u "()V"), (0, .string 8), (0, u ""), (0, .fieldref 10 11), (0, .class_ 12), (0, .nameAndType 13 14), (0, u "java/lang/String"), (0, u "value"), (0, u "[B"), (0, .fieldref 10 16), (0, .nameAndType 17 18), (0, u "coder"), (0, u "B"), (2, u "hash"), (0, u "I"), (2, u "hashIsZero"), (0, u "Z"), (0, .methodref 10 28), (0, .nameAndType 5 29), (0, u "([CIILjava/lang/Void;)V"), (8, .fieldref 10 39), (0, .nameAndType 40 26), (0, u "COMPACT_STRINGS"), (1, .class_ 44), (1, u "java/lang/StringUTF16"), (0, u "compress"), (1, .methodref 42 48), (0, .nameAndType 49 50), (0, u "coderFromArrayLen"), (0, u "([BI)B"), (2, u "toBytes"), (53, .class_ 109), (1, u "java/lang/StringLatin1"), (67, .methodref 42 178), (0, .nameAndType 45 179), (0, u "([CII)[B"), (29, .methodref 10 210), (0, .nameAndType 5 211), (0, u "([BB)V"), (157, u "(C)Z"), (171, .methodref 107 542), (0, .nameAndType 543 544), (0, u "equals"), (0, u "([B[B)Z"), (28, u "(Ljava/lang/Object;)Z"), (1, .class_ 576), (0, u "java/lang/CharSequence"), (22, u "CASE_INSENSITIVE_ORDER"), (0, u "Ljava/util/Comparator;"), (181, u "valueOf"), (0, u "(C)Ljava/lang/String;"), (226, u "([C)V"), (4, .methodref 107 1016), (0, .nameAndType 1017 369), (0, u "canEncode"), (0, .methodref 107 1019), (0, .nameAndType 53 1020), (0, u "(C)[B"), (80, u "serialPersistentFields"), (0, u "[Ljava/io/ObjectStreamField;"), (0, .class_ 1104), (0, u "java/lang/String$CaseInsensitiveComparator"), (1, .class_ 1107), (0, u "java/io/Serializable"), (0, .class_ 1109), (0, u "java/lang/Comparable"), (0, .class_ 1111), (0, u "java/lang/constant/Constable"), (0, .class_ 1113), (0, u "java/lang/constant/ConstantDesc"), (2, u "serialVersionUID"), (0, u "J"), (3, u "REPL"), (0, u "C"), (2, u "LATIN1"), (1, u "UTF16")] 323

def k9m0 : Method := { name := "<init>", desc := "()V", sig := { parameters := [], returnType := none }, accessFlags := 1, code := none }
def k9c1 : Code := { maxStack := 5, maxLocals := 2, code := jdk_42_method_3_code, exceptionTable := #[], attributes := #[] }
def k9m1 : Method := { name := "<init>", desc := "([C)V", sig := { parameters := [(.array .char)], returnType := none }, accessFlags := 1, code := some k9c1 }
def k9c2 : Code := { maxStack := 2, maxLocals := 3, code := jdk_42_method_66_code, exceptionTable := #[], attributes := #[] }
def k9m2 : Method := { name := "equals", desc := "(Ljava/lang/Object;)Z", sig := { parameters := [(.object "java/lang/Object")], returnType := some .boolean }, accessFlags := 1, code := some k9c2 }
def k9c3 : Code := { maxStack := 4, maxLocals := 1, code := jdk_42_method_139_code, exceptionTable := #[], attributes := #[] }
def k9m3 : Method := { name := "valueOf", desc := "(C)Ljava/lang/String;", sig := { parameters := [.char], returnType := some (.object "java/lang/String") }, accessFlags := 9, code := some k9c3 }
def k9c4 : Code := { maxStack := 4, maxLocals := 6, code := jdk_42_method_149_code, exceptionTable := #[], attributes := #[] }
def k9m4 : Method := { name := "<init>", desc := "([CIILjava/lang/Void;)V", sig := { parameters := [(.array .char), .int, .int, (.object "java/lang/Void")], returnType := none }, accessFlags := 2, code := some k9c4 }
def k9c5 : Code := { maxStack := 2, maxLocals := 3, code := jdk_42_method_151_code, exceptionTable := #[], attributes := #[] }
def k9m5 : Method := { name := "<init>", desc := "([BB)V", sig := { parameters := [(.array .byte), .byte], returnType := none }, accessFlags := 0, code := some k9c5 }
/-- java/lang/String -/
def k9 : Class := { plain "java/lang/String" (some 0) with
  accessFlags := 49
  interfaces := #[4, 5, 6, 7, 8]
  cf := some (fileOf pool9 10 #[.nestMembers #[1103]] #[{ accessFlags := 1, nameIndex := 5, descriptorIndex := 6, attributes := #[] }, { accessFlags := 1, nameIndex := 5, descriptorIndex := 1010, attributes := #[] }, { accessFlags := 1, nameIndex := 543, descriptorIndex := 573, attributes := #[] }, { accessFlags := 9, nameIndex := 782, descriptorIndex := 783, attributes := #[] }, { accessFlags := 2, nameIndex := 5, descriptorIndex := 29, attributes := #[] }, { accessFlags := 0, nameIndex := 5, descriptorIndex := 211, attributes := #[] }] 49 2 #[1106, 1108, 575, 1110, 1112] #[{ accessFlags := 18, nameIndex := 13, descriptorIndex := 14, attributes := #[] }, { accessFlags := 18, nameIndex := 17, descriptorIndex := 18, attributes := #[] }, { accessFlags := 2, nameIndex := 21, descriptorIndex := 22, attributes := #[] }, { accessFlags := 2, nameIndex := 25, descriptorIndex := 26, attributes := #[] }, { accessFlags := 26, nameIndex := 1116, descriptorIndex := 1117, attributes := #[] }, { accessFlags := 24, nameIndex := 40, descriptorIndex := 26, attributes := #[] }, { accessFlags := 26, nameIndex := 1101, descriptorIndex := 1102, attributes := #[] }, { accessFlags := 26, nameIndex := 1121, descriptorIndex := 1122, attributes := #[] }, { accessFlags := 25, nameIndex := 599, descriptorIndex := 600, attributes := #[] }, { accessFlags := 24, nameIndex := 1125, descriptorIndex := 18, attributes := #[] }, { accessFlags := 24, nameIndex := 1127, descriptorIndex := 18, attributes := #[] }])
  fields := #[{ name := "value", type := (.array .byte), accessFlags := 18, slot := 0, constantValue := 0 }, { name := "coder", type := .byte, accessFlags := 18, slot := 1, constantValue := 0 }, { name := "hash", type := .int, accessFlags := 2, slot := 2, constantValue := 0 }, { name := "hashIsZero", type := .boolean, accessFlags := 2, slot := 3, constantValue := 0 }, { name := "serialVersionUID", type := .long, accessFlags := 26, slot := 0, constantValue := 0 }, { name := "COMPACT_STRINGS", type := .boolean, accessFlags := 24, slot := 1, constantValue := 0 }, { name := "serialPersistentFields", type := (.array (.object "java/io/ObjectStreamField")), accessFlags := 26, slot := 2, constantValue := 0 }, { name := "REPL", type := .char, accessFlags := 26, slot := 3, constantValue := 0 }, { name := "CASE_INSENSITIVE_ORDER", type := (.object "java/util/Comparator"), accessFlags := 25, slot := 4, constantValue := 0 }, { name := "LATIN1", type := .byte, accessFlags := 24, slot := 5, constantValue := 0 }, { name := "UTF16", type := .byte, accessFlags := 24, slot := 6, constantValue := 0 }]
  methods := #[k9m0, k9m1, k9m2, k9m3, k9m4, k9m5]
  instanceTypes := #[(.array .byte), .byte, .int, .boolean]
  staticTypes := #[.long, .boolean, (.array (.object "java/io/ObjectStreamField")), .char, (.object "java/util/Comparator"), .byte, .byte]
  resolved := Array.replicate 1451 none
  statics := some 0 }

def pool10 : Array CpInfo := pool [(4, .class_ 6), (1, u "java/lang/Object"), (0, u "<init>"), (0, u "()V"), (5, .class_ 16), (1, u "java/lang/StringLatin1"), (73, u "canEncode"), (14, u "(C)Z"), (15, u "$assertionsDisabled"), (0, u "Z"), (98, .class_ 223), (1, u "java/lang/StringLatin1$LinesSpliterator"), (57, u "equals"), (0, u "([B[B)Z"), (97, u "toBytes"), (1, u "(C)[B"), (7, .class_ 391), (0, u "java/lang/StringLatin1$CharsSpliterator")] 3

def k10m0 : Method := { name := "<init>", desc := "()V", sig := { parameters := [], returnType := none }, accessFlags := 0, code := none }
def k10c1 : Code := { maxStack := 2, maxLocals := 1, code := jdk_43_method_3_code, exceptionTable := #[], attributes := #[] }
def k10m1 : Method := { name := "canEncode", desc := "(C)Z", sig := { parameters := [.char], returnType := some .boolean }, accessFlags := 9, code := some k10c1 }
def k10c2 : Code := { maxStack := 3, maxLocals := 3, code := jdk_43_method_13_code, exceptionTable := #[], attributes := #[] }
def k10m2 : Method := { name := "equals", desc := "([B[B)Z", sig := { parameters := [(.array .byte), (.array .byte)], returnType := some .boolean }, accessFlags := 9, code := some k10c2 }
def k10c3 : Code := { maxStack := 4, maxLocals := 1, code := jdk_43_method_46_code, exceptionTable := #[], attributes := #[] }
def k10m3 : Method := { name := "toBytes", desc := "(C)[B", sig := { parameters := [.char], returnType := some (.array .byte) }, accessFlags := 9, code := some k10c3 }
/-- java/lang/StringLatin1 -/
def k10 : Class := { plain "java/lang/StringLatin1" (some 0) with
  accessFlags := 48
  interfaces := #[]
  cf := some (fileOf pool10 14 #[.nestMembers #[390, 221]] #[{ accessFlags := 0, nameIndex := 7, descriptorIndex := 8, attributes := #[] }, { accessFlags := 9, nameIndex := 90, descriptorIndex := 105, attributes := #[] }, { accessFlags := 9, nameIndex := 281, descriptorIndex := 282, attributes := #[] }, { accessFlags := 9, nameIndex := 380, descriptorIndex := 382, attributes := #[] }] 48 4 #[] #[{ accessFlags := 4120, nameIndex := 121, descriptorIndex := 122, attributes := #[] }])
  fields := #[{ name := "$assertionsDisabled", type := .boolean, accessFlags := 4120, slot := 0, constantValue := 0 }]
  methods := #[k10m0, k10m1, k10m2, k10m3]
  instanceTypes := #[]
  staticTypes := #[.boolean]
  resolved := Array.replicate 395 none
  statics := none }

def pool11 : Array CpInfo := pool [(6, .class_ 8), (1, u "java/lang/Object"), (0, u "<init>"), (0, u "()V"), (1, .class_ 14), (1, u "java/lang/StringUTF16"), (31, u "$assertionsDisabled"), (0, u "Z"), (13, u "HI_BYTE_SHIFT"), (0, u "I"), (2, u "LO_BYTE_SHIFT"), (49, .methodref 12 116), (0, .nameAndType 117 118), (0, u "compress"), (0, u "([CI[BII)I"), (3, u "([CII)[B"), (138, u "coderFromArrayLen"), (0, u "([BI)B"), (106, .class_ 371), (1, u "java/lang/StringUTF16$LinesSpliterator"), (58, u "MAX_LENGTH"), (196, .class_ 628), (0, u "java/lang/StringUTF16$CodePointsSpliterator"), (0, .class_ 630), (0, u "java/lang/StringUTF16$CharsSpliterator")] 4

def k11m0 : Method := { name := "<init>", desc := "()V", sig := { parameters := [], returnType := none }, accessFlags := 0, code := none }
def k11c1 : Code := { maxStack := 2, maxLocals := 2, code := jdk_52_method_15_code, exceptionTable := #[], attributes := #[] }
def k11m1 : Method := { name := "coderFromArrayLen", desc := "([BI)B", sig := { parameters := [(.array .byte), .int], returnType := some .byte }, accessFlags := 8, code := some k11c1 }
def k11c2 : Code := { maxStack := 5, maxLocals := 6, code := jdk_52_method_16_code, exceptionTable := #[], attributes := #[] }
def k11m2 : Method := { name := "compress", desc := "([CII)[B", sig := { parameters := [(.array .char), .int, .int], returnType := some (.array .byte) }, accessFlags := 9, code := some k11c2 }
def k11c3 : Code := { maxStack := 3, maxLocals := 7, code := jdk_52_method_21_code, exceptionTable := #[], attributes := #[] }
def k11m3 : Method := { name := "compress", desc := "([CI[BII)I", sig := { parameters := [(.array .char), .int, (.array .byte), .int, .int], returnType := some .int }, accessFlags := 9, code := some k11c3 }
/-- java/lang/StringUTF16 -/
def k11 : Class := { plain "java/lang/StringUTF16" (some 0) with
  accessFlags := 48
  interfaces := #[]
  cf := some (fileOf pool11 12 #[.nestMembers #[627, 629, 369]] #[{ accessFlags := 0, nameIndex := 9, descriptorIndex := 10, attributes := #[] }, { accessFlags := 8, nameIndex := 261, descriptorIndex := 262, attributes := #[] }, { accessFlags := 9, nameIndex := 117, descriptorIndex := 122, attributes := #[] }, { accessFlags := 9, nameIndex := 117, descriptorIndex := 118, attributes := #[] }] 48 6 #[] #[{ accessFlags := 26, nameIndex := 61, descriptorIndex := 62, attributes := #[] }, { accessFlags := 26, nameIndex := 65, descriptorIndex := 62, attributes := #[] }, { accessFlags := 24, nameIndex := 430, descriptorIndex := 62, attributes := #[] }, { accessFlags := 4120, nameIndex := 46, descriptorIndex := 47, attributes := #[] }])
  fields := #[{ name := "HI_BYTE_SHIFT", type := .int, accessFlags := 26, slot := 0, constantValue := 0 }, { name := "LO_BYTE_SHIFT", type := .int, accessFlags := 26, slot := 1, constantValue := 0 }, { name := "MAX_LENGTH", type := .int, accessFlags := 24, slot := 2, constantValue := 0 }, { name := "$assertionsDisabled", type := .boolean, accessFlags := 4120, slot := 3, constantValue := 0 }]
  methods := #[k11m0, k11m1, k11m2, k11m3]
  instanceTypes := #[]
  staticTypes := #[.int, .int, .int, .boolean]
  resolved := Array.replicate 635 none
  statics := none }

def pool12 : Array CpInfo := pool [(2, .class_ 4), (1, u "java/lang/Object"), (0, u "<init>"), (0, u "()V"), (17, .class_ 26), (1, u "jdk/internal/util/Preconditions"), (28, .class_ 56), (0, u "jdk/internal/util/Preconditions$4"), (57, .class_ 115), (0, u "jdk/internal/util/Preconditions$1"), (7, u "SIOOBE_FORMATTER"), (0, u "Ljava/util/function/BiFunction;"), (0, .class_ 126), (0, u "jdk/internal/util/Preconditions$2"), (3, u "AIOOBE_FORMATTER"), (0, .class_ 132), (0, u "jdk/internal/util/Preconditions$3"), (3, u "IOOBE_FORMATTER")] 57

def k12m0 : Method := { name := "<init>", desc := "()V", sig := { parameters := [], returnType := none }, accessFlags := 1, code := none }
/-- jdk/internal/util/Preconditions -/
def k12 : Class := { plain "jdk/internal/util/Preconditions" (some 0) with
  accessFlags := 33
  interfaces := #[]
  cf := some (fileOf pool12 24 #[.nestMembers #[55, 131, 125, 114]] #[{ accessFlags := 1, nameIndex := 5, descriptorIndex := 6, attributes := #[] }] 33 2 #[] #[{ accessFlags := 25, nameIndex := 123, descriptorIndex := 124, attributes := #[] }, { accessFlags := 25, nameIndex := 130, descriptorIndex := 124, attributes := #[] }, { accessFlags := 25, nameIndex := 136, descriptorIndex := 124, attributes := #[] }])
  fields := #[{ name := "SIOOBE_FORMATTER", type := (.object "java/util/function/BiFunction"), accessFlags := 25, slot := 0, constantValue := 0 }, { name := "AIOOBE_FORMATTER", type := (.object "java/util/function/BiFunction"), accessFlags := 25, slot := 1, constantValue := 0 }, { name := "IOOBE_FORMATTER", type := (.object "java/util/function/BiFunction"), accessFlags := 25, slot := 2, constantValue := 0 }]
  methods := #[k12m0]
  instanceTypes := #[]
  staticTypes := #[(.object "java/util/function/BiFunction"), (.object "java/util/function/BiFunction"), (.object "java/util/function/BiFunction")]
  resolved := Array.replicate 194 none
  statics := some 1 }

def pool13 : Array CpInfo := pool [(9, u "<init>"), (6, .class_ 18), (1, u "java/lang/Object"), (0, u "()V"), (1, .class_ 23), (1, u "jdk/internal/util/ArraysSupport"), (0, u "LOG2_ARRAY_LONG_INDEX_SCALE"), (0, u "I"), (2, u "U"), (0, u "Ljdk/internal/misc/Unsafe;"), (8, u "BIG_ENDIAN"), (0, u "Z"), (8, u "LOG2_BYTE_BIT_SIZE"), (4, u "LOG2_ARRAY_INT_INDEX_SCALE"), (54, u "JLA"), (0, u "Ljdk/internal/access/JavaLangAccess;"), (11, u "LOG2_ARRAY_BOOLEAN_INDEX_SCALE"), (9, u "LOG2_ARRAY_BYTE_INDEX_SCALE"), (5, u "LOG2_ARRAY_CHAR_INDEX_SCALE"), (5, u "LOG2_ARRAY_SHORT_INDEX_SCALE"), (18, u "LOG2_ARRAY_FLOAT_INDEX_SCALE"), (24, u "LOG2_ARRAY_DOUBLE_INDEX_SCALE"), (89, u "T_BOOLEAN"), (2, u "T_CHAR"), (1, u "T_FLOAT"), (1, u "T_DOUBLE"), (1, u "T_BYTE"), (1, u "T_SHORT"), (1, u "T_INT"), (1, u "T_LONG"), (1, u "SOFT_MAX_ARRAY_LENGTH")] 83

def k13m0 : Method := { name := "<init>", desc := "()V", sig := { parameters := [], returnType := none }, accessFlags := 2, code := none }
/-- jdk/internal/util/ArraysSupport -/
def k13 : Class := { plain "jdk/internal/util/ArraysSupport" (some 0) with
  accessFlags := 33
  interfaces := #[]
  cf := some (fileOf pool13 21 #[] #[{ accessFlags := 2, nameIndex := 9, descriptorIndex := 19, attributes := #[] }] 33 16 #[] #[{ accessFlags := 24, nameIndex := 28, descriptorIndex := 29, attributes := #[] }, { accessFlags := 26, nameIndex := 38, descriptorIndex := 39, attributes := #[] }, { accessFlags := 25, nameIndex := 121, descriptorIndex := 25, attributes := #[] }, { accessFlags := 25, nameIndex := 131, descriptorIndex := 25, attributes := #[] }, { accessFlags := 25, nameIndex := 137, descriptorIndex := 25, attributes := #[] }, { accessFlags := 25, nameIndex := 143, descriptorIndex := 25, attributes := #[] }, { accessFlags := 25, nameIndex := 53, descriptorIndex := 25, attributes := #[] }, { accessFlags := 25, nameIndex := 24, descriptorIndex := 25, attributes := #[] }, { accessFlags := 25, nameIndex := 162, descriptorIndex := 25, attributes := #[] }, { accessFlags := 25, nameIndex := 187, descriptorIndex := 25, attributes := #[] }, { accessFlags := 26, nameIndex := 48, descriptorIndex := 25, attributes := #[] }, { accessFlags := 25, nameIndex := 277, descriptorIndex := 25, attributes := #[] }, { accessFlags := 25, nameIndex := 280, descriptorIndex := 25, attributes := #[] }, { accessFlags := 25, nameIndex := 282, descriptorIndex := 25, attributes := #[] }, { accessFlags := 25, nameIndex := 284, descriptorIndex := 25, attributes := #[] }, { accessFlags := 25, nameIndex := 286, descriptorIndex := 25, attributes := #[] }, { accessFlags := 25, nameIndex := 288, descriptorIndex := 25, attributes := #[] }, { accessFlags := 25, nameIndex := 290, descriptorIndex := 25, attributes := #[] }, { accessFlags := 25, nameIndex := 292, descriptorIndex := 25, attributes := #[] }, { accessFlags := 26, nameIndex := 108, descriptorIndex := 109, attributes := #[] }, { accessFlags := 25, nameIndex := 294, descriptorIndex := 25, attributes := #[] }])
  fields := #[{ name := "U", type := (.object "jdk/internal/misc/Unsafe"), accessFlags := 24, slot := 0, constantValue := 0 }, { name := "BIG_ENDIAN", type := .boolean, accessFlags := 26, slot := 1, constantValue := 0 }, { name := "LOG2_ARRAY_BOOLEAN_INDEX_SCALE", type := .int, accessFlags := 25, slot := 2, constantValue := 0 }, { name := "LOG2_ARRAY_BYTE_INDEX_SCALE", type := .int, accessFlags := 25, slot := 3, constantValue := 0 }, { name := "LOG2_ARRAY_CHAR_INDEX_SCALE", type := .int, accessFlags := 25, slot := 4, constantValue := 0 }, { name := "LOG2_ARRAY_SHORT_INDEX_SCALE", type := .int, accessFlags := 25, slot := 5, constantValue := 0 }, { name := "LOG2_ARRAY_INT_INDEX_SCALE", type := .int, accessFlags := 25, slot := 6, constantValue := 0 }, { name := "LOG2_ARRAY_LONG_INDEX_SCALE", type := .int, accessFlags := 25, slot := 7, constantValue := 0 }, { name := "LOG2_ARRAY_FLOAT_INDEX_SCALE", type := .int, accessFlags := 25, slot := 8, constantValue := 0 }, { name := "LOG2_ARRAY_DOUBLE_INDEX_SCALE", type := .int, accessFlags := 25, slot := 9, constantValue := 0 }, { name := "LOG2_BYTE_BIT_SIZE", type := .int, accessFlags := 26, slot := 10, constantValue := 0 }, { name := "T_BOOLEAN", type := .int, accessFlags := 25, slot := 11, constantValue := 0 }, { name := "T_CHAR", type := .int, accessFlags := 25, slot := 12, constantValue := 0 }, { name := "T_FLOAT", type := .int, accessFlags := 25, slot := 13, constantValue := 0 }, { name := "T_DOUBLE", type := .int, accessFlags := 25, slot := 14, constantValue := 0 }, { name := "T_BYTE", type := .int, accessFlags := 25, slot := 15, constantValue := 0 }, { name := "T_SHORT", type := .int, accessFlags := 25, slot := 16, constantValue := 0 }, { name := "T_INT", type := .int, accessFlags := 25, slot := 17, constantValue := 0 }, { name := "T_LONG", type := .int, accessFlags := 25, slot := 18, constantValue := 0 }, { name := "JLA", type := (.object "jdk/internal/access/JavaLangAccess"), accessFlags := 26, slot := 19, constantValue := 0 }, { name := "SOFT_MAX_ARRAY_LENGTH", type := .int, accessFlags := 25, slot := 20, constantValue := 0 }]
  methods := #[k13m0]
  instanceTypes := #[]
  staticTypes := #[(.object "jdk/internal/misc/Unsafe"), .boolean, .int, .int, .int, .int, .int, .int, .int, .int, .int, .int, .int, .int, .int, .int, .int, .int, .int, (.object "jdk/internal/access/JavaLangAccess"), .int]
  resolved := Array.replicate 378 none
  statics := none }

def pool14 : Array CpInfo := pool [(1, u "java/lang/Cloneable"), (0, .class_ 1), (0, u "java/lang/Object"), (0, .class_ 3)] 3

/-- java/lang/Cloneable -/
def k14 : Class := { plain "java/lang/Cloneable" (some 0) with
  accessFlags := 1537
  interfaces := #[]
  cf := some (fileOf pool14 2 #[] #[] 1537 4 #[] #[])
  fields := #[]
  methods := #[]
  instanceTypes := #[]
  staticTypes := #[]
  resolved := Array.replicate 8 none
  statics := none }

/-- the primitive byte -/
def k15 : Class := { plain "byte" none with kind := .primitive 'B', accessFlags := 0x411 }
/-- [B -/
def k16 : Class := { plain "[B" (some 0) with kind := .array 15 .byte, interfaces := #[14, 4], accessFlags := 1041 }

/-- the primitive char -/
def k17 : Class := { plain "char" none with kind := .primitive 'C', accessFlags := 0x411 }
/-- [C -/
def k18 : Class := { plain "[C" (some 0) with kind := .array 17 .char, interfaces := #[14, 4], accessFlags := 1041 }

/-- the primitive int -/
def k19 : Class := { plain "int" none with kind := .primitive 'I', accessFlags := 0x411 }
/-- [I -/
def k20 : Class := { plain "[I" (some 0) with kind := .array 19 .int, interfaces := #[14, 4], accessFlags := 1041 }

def heap : Heap := #[{ cls := 9, slots := #[.long 0, .int 1, .null, .int 0, .null, .int 0, .int 0], vm := .statics 9 },
  { cls := 12, slots := #[.null, .null, .null], vm := .statics 12 }]
def classes : Array Class := #[k0, k1, k2, k3, k4, k5, k6, k7, k8, k9, k10, k11, k12, k13, k14, k15, k16, k17, k18, k19, k20]
def interned : List (Array UInt16 × Addr) := []
def slotsUsed : Nat := 10
def theMethod : MethodId := ⟨1, 4⟩
def args0 : Array Value := #[.int 5, .int 6, .int 7, .int 8, .int 0]
def aboutOver (below : List Frame) : State where
  vm := { classes := classes, interned := interned.toArray }
  heap := heap
  slotsUsed := slotsUsed
  threads := #[{ frames := .invoking theMethod args0 :: below }]
def below0 : List Frame := [.native { method := ⟨0, 0⟩, args := #[] }]
def about1 : State := aboutOver below0
def p0 : Program := .bare "" "" ""
def e0 : Env := launch0.env 0 0 0
theorem w_frames : about1.frames = Frame.invoking theMethod args0 :: below0 := rfl
set_option maxRecDepth 65536 in
theorem w_args : argsFit about1.vm theMethod args0 = true := by decide +kernel
set_option maxRecDepth 65536 in
theorem w_heap : heapFits about1 = true := by decide +kernel
set_option maxRecDepth 65536 in
theorem w_runnable : about1.curStatus? = some .runnable := by decide +kernel
set_option maxRecDepth 65536 in
theorem w_alone : about1.alone = true := by decide +kernel
set_option maxRecDepth 65536 in
theorem w_named : about1.methodNamed? x = some theMethod := by decide +kernel
set_option maxRecDepth 65536 in
theorem w_hears : about1.hears theMethod below0 = true := by decide +kernel
set_option maxRecDepth 65536 in
theorem w_ripe : about1.ripe theMethod args0 below0 = true := by decide +kernel
theorem w_running : about1.status = .running := rfl
set_option maxRecDepth 65536 in
theorem w_room : about1.hasRoom e0.platform room_1 = true :=
  launch0.hasRoom_least _ room_1 (by decide +kernel) (by decide +kernel) (by decide +kernel) (by decide +kernel) (by decide +kernel) (by decide +kernel)
theorem allAtoms_all (ts : List Jvm.Cond) (a : Array Jvm.Value) (st : Jvm.State) : (allAtoms ts).before a st = ts.all (fun c => c.before a st) := by
  induction ts with
  | nil => rfl
  | cons c t ih =>
    show (Jvm.Cond.and c (allAtoms t)).before a st = _
    rw [Jvm.Cond.before_and, ih, List.all_cons]
def words1 : List Jvm.Cond := Jvm.Cond.code x code maxLocals ret :: tables_1
/-- a 'code' word, met by the world's own term for the bytes: nothing is compared byte by byte -/
theorem code_word {y : MethodName} {bytes : ByteArray} {mx : Nat} {rt : Option FieldType} {a : Array Value} {s : State} {m : MethodId} {meth : Method} {c : Code} (h1 : s.methodNamed? y = some m) (h2 : s.vm.method? m = some meth) (h3 : meth.code = some c) (h4 : c.code = bytes)
    (h5 : (c.maxLocals == mx && c.exceptionTable.isEmpty && decide (c.maxStack ≤ mostOperands) && decide (meth.sig.returnType = rt) && !meth.locks && decide (parseMethodDescriptor y.desc = some meth.sig)) = true) : (Jvm.Cond.code y bytes mx rt).before a s = true := by
  simp only [Bool.and_eq_true, beq_iff_eq, Bool.not_eq_true', decide_eq_true_eq] at h5
  obtain ⟨⟨⟨⟨⟨g1, g2⟩, g3⟩, g4⟩, g5⟩, g6⟩ := h5
  simp [Cond.before, Cond.holds, Cond.value, h1, h2, h3, h4, g1, g2, g3, g4, g5, g6]
def isCode : Jvm.Cond → Bool
  | .code _ _ _ _ => true
  | _ => false
theorem all_split {L : List Jvm.Cond} {P : Jvm.Cond → Bool} (h1 : L.all (fun c => isCode c || P c) = true) (h2 : ∀ c ∈ L.filter isCode, P c = true) : L.all P = true := by
  refine List.all_eq_true.mpr fun c hc => ?_
  have h := List.all_eq_true.mp h1 c hc
  rcases Bool.eq_false_or_eq_true (isCode c) with hi | hi
  · exact h2 c (List.mem_filter.mpr ⟨hc, hi⟩)
  · simpa [hi] using h
set_option maxRecDepth 65536 in
theorem w_c0 : (Jvm.Cond.code x code maxLocals ret).before args0 about1 = true := code_word (m := ⟨1, 4⟩) (meth := k1m4) (c := k1c4) (by decide +kernel) rfl rfl rfl (by decide +kernel)
set_option maxRecDepth 65536 in
theorem w_c1 : (Jvm.Cond.code ({ cls := "com/example/coverbill/coverbill/book/IdentifierEqualsPinLaw", name := "str", desc := "(I)Ljava/lang/String;" } : Jvm.MethodName) method_3_code (4 : Nat) (Option.some (Jvm.ClassFile.FieldType.object "java/lang/String"))).before args0 about1 = true := code_word (m := ⟨1, 2⟩) (meth := k1m2) (c := k1c2) (by decide +kernel) rfl rfl rfl (by decide +kernel)
set_option maxRecDepth 65536 in
theorem w_c2 : (Jvm.Cond.code ({ cls := "com/example/coverbill/coverbill/book/IdentifierEqualsPinLaw", name := "len", desc := "(I)I" } : Jvm.MethodName) method_2_code (1 : Nat) (Option.some Jvm.ClassFile.FieldType.int)).before args0 about1 = true := code_word (m := ⟨1, 1⟩) (meth := k1m1) (c := k1c1) (by decide +kernel) rfl rfl rfl (by decide +kernel)
set_option maxRecDepth 65536 in
theorem w_c3 : (Jvm.Cond.code ({ cls := "java/lang/Math", name := "min", desc := "(II)I" } : Jvm.MethodName) jdk_29_method_69_code (2 : Nat) (Option.some Jvm.ClassFile.FieldType.int)).before args0 about1 = true := code_word (m := ⟨3, 1⟩) (meth := k3m1) (c := k3c1) (by decide +kernel) rfl rfl rfl (by decide +kernel)
set_option maxRecDepth 65536 in
theorem w_c4 : (Jvm.Cond.code ({ cls := "java/lang/String", name := "<init>", desc := "([C)V" } : Jvm.MethodName) jdk_42_method_3_code (2 : Nat) (Option.none : Option Jvm.ClassFile.FieldType)).before args0 about1 = true := code_word (m := ⟨9, 1⟩) (meth := k9m1) (c := k9c1) (by decide +kernel) rfl rfl rfl (by decide +kernel)
set_option maxRecDepth 65536 in
theorem w_c5 : (Jvm.Cond.code ({ cls := "java/lang/String", name := "<init>", desc := "([CIILjava/lang/Void;)V" } : Jvm.MethodName) jdk_42_method_149_code (6 : Nat) (Option.none : Option Jvm.ClassFile.FieldType)).before args0 about1 = true := code_word (m := ⟨9, 4⟩) (meth := k9m4) (c := k9c4) (by decide +kernel) rfl rfl rfl (by decide +kernel)
set_option maxRecDepth 65536 in
theorem w_c6 : (Jvm.Cond.code ({ cls := "java/lang/Object", name := "<init>", desc := "()V" } : Jvm.MethodName) object_method_1_code (1 : Nat) (Option.none : Option Jvm.ClassFile.FieldType)).before args0 about1 = true := code_word (m := ⟨0, 0⟩) (meth := k0m0) (c := k0c0) (by decide +kernel) rfl rfl rfl (by decide +kernel)
set_option maxRecDepth 65536 in
theorem w_c7 : (Jvm.Cond.code ({ cls := "com/example/coverbill/coverbill/book/Identifier", name := "<init>", desc := "(Ljava/lang/String;Ljava/lang/String;)V" } : Jvm.MethodName) prog_18_method_1_code (3 : Nat) (Option.none : Option Jvm.ClassFile.FieldType)).before args0 about1 = true := code_word (m := ⟨2, 0⟩) (meth := k2m0) (c := k2c0) (by decide +kernel) rfl rfl rfl (by decide +kernel)
set_option maxRecDepth 65536 in
theorem w_c8 : (Jvm.Cond.code ({ cls := "com/example/coverbill/coverbill/book/IdentifierEqualsPinLaw", name := "same", desc := "(II)Z" } : Jvm.MethodName) method_4_code (3 : Nat) (Option.some Jvm.ClassFile.FieldType.boolean)).before args0 about1 = true := code_word (m := ⟨1, 3⟩) (meth := k1m3) (c := k1c3) (by decide +kernel) rfl rfl rfl (by decide +kernel)
set_option maxRecDepth 65536 in
theorem w_c9 : (Jvm.Cond.code ({ cls := "com/example/coverbill/coverbill/book/Identifier", name := "equals", desc := "(Ljava/lang/Object;)Z" } : Jvm.MethodName) prog_18_method_4_code (3 : Nat) (Option.some Jvm.ClassFile.FieldType.boolean)).before args0 about1 = true := code_word (m := ⟨2, 1⟩) (meth := k2m1) (c := k2c1) (by decide +kernel) rfl rfl rfl (by decide +kernel)
set_option maxRecDepth 65536 in
theorem w_c10 : (Jvm.Cond.code ({ cls := "java/lang/String", name := "equals", desc := "(Ljava/lang/Object;)Z" } : Jvm.MethodName) jdk_42_method_66_code (3 : Nat) (Option.some Jvm.ClassFile.FieldType.boolean)).before args0 about1 = true := code_word (m := ⟨9, 2⟩) (meth := k9m2) (c := k9c2) (by decide +kernel) rfl rfl rfl (by decide +kernel)
set_option maxRecDepth 65536 in
theorem w_c11 : (Jvm.Cond.code ({ cls := "java/lang/StringLatin1", name := "equals", desc := "([B[B)Z" } : Jvm.MethodName) jdk_43_method_13_code (3 : Nat) (Option.some Jvm.ClassFile.FieldType.boolean)).before args0 about1 = true := code_word (m := ⟨10, 2⟩) (meth := k10m2) (c := k10c2) (by decide +kernel) rfl rfl rfl (by decide +kernel)
set_option maxRecDepth 65536 in
theorem w_c12 : (Jvm.Cond.code ({ cls := "java/lang/StringUTF16", name := "compress", desc := "([CII)[B" } : Jvm.MethodName) jdk_52_method_16_code (6 : Nat) (Option.some (Jvm.ClassFile.FieldType.array Jvm.ClassFile.FieldType.byte))).before args0 about1 = true := code_word (m := ⟨11, 2⟩) (meth := k11m2) (c := k11c2) (by decide +kernel) rfl rfl rfl (by decide +kernel)
set_option maxRecDepth 65536 in
theorem w_c13 : (Jvm.Cond.code ({ cls := "java/lang/StringUTF16", name := "compress", desc := "([CI[BII)I" } : Jvm.MethodName) jdk_52_method_21_code (7 : Nat) (Option.some Jvm.ClassFile.FieldType.int)).before args0 about1 = true := code_word (m := ⟨11, 3⟩) (meth := k11m3) (c := k11c3) (by decide +kernel) rfl rfl rfl (by decide +kernel)
set_option maxRecDepth 65536 in
theorem w_c14 : (Jvm.Cond.code ({ cls := "java/lang/StringUTF16", name := "coderFromArrayLen", desc := "([BI)B" } : Jvm.MethodName) jdk_52_method_15_code (2 : Nat) (Option.some Jvm.ClassFile.FieldType.byte)).before args0 about1 = true := code_word (m := ⟨11, 1⟩) (meth := k11m1) (c := k11c1) (by decide +kernel) rfl rfl rfl (by decide +kernel)
set_option maxRecDepth 65536 in
theorem w_c15 : (Jvm.Cond.code ({ cls := "java/lang/String", name := "valueOf", desc := "(C)Ljava/lang/String;" } : Jvm.MethodName) jdk_42_method_139_code (1 : Nat) (Option.some (Jvm.ClassFile.FieldType.object "java/lang/String"))).before args0 about1 = true := code_word (m := ⟨9, 3⟩) (meth := k9m3) (c := k9c3) (by decide +kernel) rfl rfl rfl (by decide +kernel)
set_option maxRecDepth 65536 in
theorem w_c16 : (Jvm.Cond.code ({ cls := "java/lang/StringLatin1", name := "canEncode", desc := "(C)Z" } : Jvm.MethodName) jdk_43_method_3_code (1 : Nat) (Option.some Jvm.ClassFile.FieldType.boolean)).before args0 about1 = true := code_word (m := ⟨10, 1⟩) (meth := k10m1) (c := k10c1) (by decide +kernel) rfl rfl rfl (by decide +kernel)
set_option maxRecDepth 65536 in
theorem w_c17 : (Jvm.Cond.code ({ cls := "java/lang/StringLatin1", name := "toBytes", desc := "(C)[B" } : Jvm.MethodName) jdk_43_method_46_code (1 : Nat) (Option.some (Jvm.ClassFile.FieldType.array Jvm.ClassFile.FieldType.byte))).before args0 about1 = true := code_word (m := ⟨10, 3⟩) (meth := k10m3) (c := k10c3) (by decide +kernel) rfl rfl rfl (by decide +kernel)
set_option maxRecDepth 65536 in
theorem w_c18 : (Jvm.Cond.code ({ cls := "java/lang/String", name := "<init>", desc := "([BB)V" } : Jvm.MethodName) jdk_42_method_151_code (3 : Nat) (Option.none : Option Jvm.ClassFile.FieldType)).before args0 about1 = true := code_word (m := ⟨9, 5⟩) (meth := k9m5) (c := k9c5) (by decide +kernel) rfl rfl rfl (by decide +kernel)
def codes1 : List Jvm.Cond := [Jvm.Cond.code x code maxLocals ret, Jvm.Cond.code ({ cls := "com/example/coverbill/coverbill/book/IdentifierEqualsPinLaw", name := "str", desc := "(I)Ljava/lang/String;" } : Jvm.MethodName) method_3_code (4 : Nat) (Option.some (Jvm.ClassFile.FieldType.object "java/lang/String")), Jvm.Cond.code ({ cls := "com/example/coverbill/coverbill/book/IdentifierEqualsPinLaw", name := "len", desc := "(I)I" } : Jvm.MethodName) method_2_code (1 : Nat) (Option.some Jvm.ClassFile.FieldType.int), Jvm.Cond.code ({ cls := "java/lang/Math", name := "min", desc := "(II)I" } : Jvm.MethodName) jdk_29_method_69_code (2 : Nat) (Option.some Jvm.ClassFile.FieldType.int), Jvm.Cond.code ({ cls := "java/lang/String", name := "<init>", desc := "([C)V" } : Jvm.MethodName) jdk_42_method_3_code (2 : Nat) (Option.none : Option Jvm.ClassFile.FieldType), Jvm.Cond.code ({ cls := "java/lang/String", name := "<init>", desc := "([CIILjava/lang/Void;)V" } : Jvm.MethodName) jdk_42_method_149_code (6 : Nat) (Option.none : Option Jvm.ClassFile.FieldType), Jvm.Cond.code ({ cls := "java/lang/Object", name := "<init>", desc := "()V" } : Jvm.MethodName) object_method_1_code (1 : Nat) (Option.none : Option Jvm.ClassFile.FieldType), Jvm.Cond.code ({ cls := "com/example/coverbill/coverbill/book/Identifier", name := "<init>", desc := "(Ljava/lang/String;Ljava/lang/String;)V" } : Jvm.MethodName) prog_18_method_1_code (3 : Nat) (Option.none : Option Jvm.ClassFile.FieldType), Jvm.Cond.code ({ cls := "com/example/coverbill/coverbill/book/IdentifierEqualsPinLaw", name := "same", desc := "(II)Z" } : Jvm.MethodName) method_4_code (3 : Nat) (Option.some Jvm.ClassFile.FieldType.boolean), Jvm.Cond.code ({ cls := "com/example/coverbill/coverbill/book/Identifier", name := "equals", desc := "(Ljava/lang/Object;)Z" } : Jvm.MethodName) prog_18_method_4_code (3 : Nat) (Option.some Jvm.ClassFile.FieldType.boolean), Jvm.Cond.code ({ cls := "java/lang/String", name := "equals", desc := "(Ljava/lang/Object;)Z" } : Jvm.MethodName) jdk_42_method_66_code (3 : Nat) (Option.some Jvm.ClassFile.FieldType.boolean), Jvm.Cond.code ({ cls := "java/lang/StringLatin1", name := "equals", desc := "([B[B)Z" } : Jvm.MethodName) jdk_43_method_13_code (3 : Nat) (Option.some Jvm.ClassFile.FieldType.boolean), Jvm.Cond.code ({ cls := "java/lang/StringUTF16", name := "compress", desc := "([CII)[B" } : Jvm.MethodName) jdk_52_method_16_code (6 : Nat) (Option.some (Jvm.ClassFile.FieldType.array Jvm.ClassFile.FieldType.byte)), Jvm.Cond.code ({ cls := "java/lang/StringUTF16", name := "compress", desc := "([CI[BII)I" } : Jvm.MethodName) jdk_52_method_21_code (7 : Nat) (Option.some Jvm.ClassFile.FieldType.int), Jvm.Cond.code ({ cls := "java/lang/StringUTF16", name := "coderFromArrayLen", desc := "([BI)B" } : Jvm.MethodName) jdk_52_method_15_code (2 : Nat) (Option.some Jvm.ClassFile.FieldType.byte), Jvm.Cond.code ({ cls := "java/lang/String", name := "valueOf", desc := "(C)Ljava/lang/String;" } : Jvm.MethodName) jdk_42_method_139_code (1 : Nat) (Option.some (Jvm.ClassFile.FieldType.object "java/lang/String")), Jvm.Cond.code ({ cls := "java/lang/StringLatin1", name := "canEncode", desc := "(C)Z" } : Jvm.MethodName) jdk_43_method_3_code (1 : Nat) (Option.some Jvm.ClassFile.FieldType.boolean), Jvm.Cond.code ({ cls := "java/lang/StringLatin1", name := "toBytes", desc := "(C)[B" } : Jvm.MethodName) jdk_43_method_46_code (1 : Nat) (Option.some (Jvm.ClassFile.FieldType.array Jvm.ClassFile.FieldType.byte)), Jvm.Cond.code ({ cls := "java/lang/String", name := "<init>", desc := "([BB)V" } : Jvm.MethodName) jdk_42_method_151_code (3 : Nat) (Option.none : Option Jvm.ClassFile.FieldType)]
set_option maxRecDepth 65536 in
theorem codes_eq : words1.filter isCode = codes1 := rfl
theorem w_codes : ∀ c ∈ words1.filter isCode, c.before args0 about1 = true := by
  rw [codes_eq]
  intro c hc
  simp only [codes1, List.mem_cons, List.not_mem_nil, or_false] at hc
  rcases hc with rfl | rfl | rfl | rfl | rfl | rfl | rfl | rfl | rfl | rfl | rfl | rfl | rfl | rfl | rfl | rfl | rfl | rfl | rfl
  · exact w_c0
  · exact w_c1
  · exact w_c2
  · exact w_c3
  · exact w_c4
  · exact w_c5
  · exact w_c6
  · exact w_c7
  · exact w_c8
  · exact w_c9
  · exact w_c10
  · exact w_c11
  · exact w_c12
  · exact w_c13
  · exact w_c14
  · exact w_c15
  · exact w_c16
  · exact w_c17
  · exact w_c18
set_option maxRecDepth 65536 in
theorem w_t1 : (words1.take 24).all (fun c => isCode c || c.before args0 about1) = true := by decide +kernel
set_option maxRecDepth 65536 in
theorem w_t2 : ((words1.drop 24).take 24).all (fun c => isCode c || c.before args0 about1) = true := by decide +kernel
set_option maxRecDepth 65536 in
theorem w_t3 : (((words1.drop 24).drop 24).take 24).all (fun c => isCode c || c.before args0 about1) = true := by decide +kernel
set_option maxRecDepth 65536 in
theorem w_t4 : (((words1.drop 24).drop 24).drop 24).all (fun c => isCode c || c.before args0 about1) = true := by decide +kernel
theorem w_tables : (allAtoms (Jvm.Cond.code x code maxLocals ret :: tables_1)).before args0 about1 = true := by
  rw [allAtoms_all]
  show words1.all (fun c => c.before args0 about1) = true
  refine all_split ?_ w_codes
  rw [← List.take_append_drop 24 words1, List.all_append, w_t1, ← List.take_append_drop 24 (words1.drop 24), List.all_append, w_t2, ← List.take_append_drop 24 ((words1.drop 24).drop 24), List.all_append, w_t3, w_t4]
  rfl
set_option maxRecDepth 65536 in
theorem w_rest : rest_1_c.before args0 about1 = true := by decide +kernel
set_option maxRecDepth 65536 in
theorem w_case : (Jvm.Cond.and given_1 narrow_1).before args0 about1 = true := by decide +kernel
set_option maxRecDepth 65536 in
theorem w_consts : constsHeld consts_1 about1 := Jvm.Lit.constsHeldB_iff.mp (by decide +kernel)
theorem w_applies : (headSpec (Jvm.Cond.code x code maxLocals ret :: tables_1) room_1).applies x e0.platform about1 = true :=
  (Spec.applies_iff w_frames).mpr ⟨w_running, w_runnable, w_alone, w_named, w_hears, w_ripe, w_room, w_tables⟩
theorem atStart : AtStart classFile x code maxLocals ret World_1 tables_1 room_1 Calls_1 rest_1 Pre_1 launch0 p0 e0 about1 theMethod args0 below0 :=
  ⟨lists_1, trivial, launch0.admits_env _ _ _, launch0.least_env, fairChoices_fair.cas, fairChoices_fair.clock, w_frames, w_args, w_heap, w_applies, ⟨w_consts, trivial⟩, w_rest, w_case⟩
end start1
theorem witness_1 : WitnessClaimed_1 := ⟨start1.p0, start1.e0, start1.about1, start1.theMethod, start1.args0, start1.below0, start1.atStart⟩
end Jvm.Pilot.@@N@@
