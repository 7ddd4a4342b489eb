import JvmDerived
import JvmDerived.Pilot.@@N@@Statement
import JvmDerived.Pilot.@@N@@Code
set_option linter.unusedVariables false
set_option linter.unusedSimpArgs false
namespace Jvm.RoadKit
open Sem ClassFile Op Lib Jvm.Stand Jvm.Free Jvm.LawKit
section New
variable {p : Program} {l : Launch} {e : Env} {R : Room} {s : State} {m : MethodId} {args : Array Value} {below : List Frame} {meth : Method} {c : Code} {T : State} {locs : List Loc} {cells slots : Nat}
theorem retI (X : Stand p l e R s m args below meth c T locs cells slots) (hx : p.tables.exec = Jvm.exec) {pc : Nat} {Ls : Array Slot} {z : Int32} {rest : List Value} (hret : meth.sig.returnType = some .int) (hd : decode c.code pc = .ok (.ireturn, 1)) {fs : List Frame}
    (hl : ∀ (f : JFrame) (acts : List Action), f.method = m → f.locked = none → f.entered = [] → (doReturn e (T.setTop f) acts (some (.int z))).1 = T.setFrames fs) : Steps p.tables e below (T.setTop (mkF m pc Ls (.int z :: rest))) (T.setFrames fs) := by
  have hm' : T.vm.method? m = some meth := X.method'
  have hn : narrow .int (.int z) = .int z := rfl
  show Steps p.tables e below (T.setTop { method := m, pc := pc, locals := Ls, stack := _ :: rest, locked := none }) _
  jvm_step X.here [X.here.top, hx, hd, hm', hret, hn]
  first | (intro acts; rw [hl _ acts rfl rfl rfl]) | rw [hl _ _ rfl rfl rfl]
  exact Steps.refl _
end New
end Jvm.RoadKit
namespace Jvm.Pilot.@@N@@
open Jvm Jvm.ClassFile Sem Op Lib Jvm.Free Jvm.Stand Jvm.LawKit Jvm.RoadKit Bundle Jvm.Pilot.@@N@@.Jvm.D
/-- from the state T the run comes to a state of which K holds -/
def own_Go (p : Program) (e : Env) (below : List Frame) (K : State → Prop) (T : State) : Prop := ∃ t, Steps p.tables e below T t ∧ K t
theorem own_st {p : Program} {e : Env} {below : List Frame} {K : State → Prop} {T T' : State} (h : ∀ t, Steps p.tables e below T' t → Steps p.tables e below T t) (g : own_Go p e below K T') : own_Go p e below K T := by
  obtain ⟨t, a, b⟩ := g; exact ⟨t, h t a, b⟩
theorem own_tr {p : Program} {e : Env} {below : List Frame} {K : State → Prop} {T T' : State} (h : Steps p.tables e below T T') (g : own_Go p e below K T') : own_Go p e below K T := by
  obtain ⟨t, a, b⟩ := g; exact ⟨t, h.trans a, b⟩
theorem own_lrem {tb : Tables} [Ours tb] {e : Env} {below : List Frame} {T target : State} {m : MethodId} {c : Code} {g : JFrame} (h : At T m c below) (hx : tb.exec = Jvm.exec) (hg : g.method = m) {x y : Int64} {rest : List Value} (hd : decode c.code g.pc = .ok (.lrem, 1)) (hs : g.stack = .long y :: .long x :: rest) (hy : y ≠ 0)
    (hr : Steps tb e below (T.setTop { g with pc := g.pc + 1, stack := .long (x % y) :: rest }) target) : Steps tb e below (T.setTop g) target := by
  have q : x - x / y * y = x % y := lrem_mod x y
  exact XS.lrem h hx hg hd hs hy (by rw [q]; exact hr)
/-- a boolean's worth: 1 where P holds, 0 where it doesn't -/
def own_B (P : Prop) (r : Int32) : Prop := (r = 1 ∧ P) ∨ (r = 0 ∧ ¬ P)
theorem own_B.yes {P : Prop} {r : Int32} (e : r = 1) (h : P) : own_B P r := Or.inl ⟨e, h⟩
theorem own_B.no {P : Prop} {r : Int32} (e : r = 0) (h : ¬ P) : own_B P r := Or.inr ⟨e, h⟩
theorem own_B.same {P Q : Prop} {r v : Int32} (a : own_B P r) (b : own_B Q v) (h : P ↔ Q) : r = v := by
  rcases a with ⟨rfl, p⟩ | ⟨rfl, p⟩ <;> rcases b with ⟨rfl, q⟩ | ⟨rfl, q⟩
  · rfl
  · exact absurd (h.mp p) q
  · exact absurd (h.mpr q) p
  · rfl
theorem own_B.one {P : Prop} {r : Int32} (a : own_B P r) (h : P) : r = 1 := by
  rcases a with ⟨rfl, p⟩ | ⟨rfl, p⟩
  · rfl
  · exact absurd h p
theorem own_B.zero {P : Prop} {r : Int32} (a : own_B P r) (h : ¬ P) : r = 0 := by
  rcases a with ⟨rfl, p⟩ | ⟨rfl, p⟩
  · exact absurd p h
  · rfl
theorem own_B.ne0 {P : Prop} {r : Int32} (a : own_B P r) (h : P) : ¬ r = 0 := by rw [a.one h]; decide
theorem own_B.holds {P : Prop} {r : Int32} (a : own_B P r) (h : ¬ r = 0) : P := by
  rcases a with ⟨rfl, p⟩ | ⟨rfl, p⟩
  · exact p
  · exact absurd rfl h
theorem own_B.fails {P : Prop} {r : Int32} (a : own_B P r) (h : r = 0) : ¬ P := by
  rcases a with ⟨rfl, p⟩ | ⟨rfl, p⟩
  · exact absurd h (by decide)
  · exact p
theorem own_atJ (ws : List Int64) (i : Nat) : (ws.map Value.long).getD i (.long (0 : Int64)) = .long (ws.getD i 0) := by
  simp only [List.getD, List.getElem?_map]; cases ws[i]? <;> rfl
theorem own_atI (ws : List Int32) (i : Nat) : (ws.map Value.int).getD i (.int (0 : Int32)) = .int (ws.getD i 0) := by
  simp only [List.getD, List.getElem?_map]; cases ws[i]? <;> rfl
theorem own_selp {Z s : State} {a0 args : Array Value} {y : MethodName} {n : Nat} (hZ : Z.Warmed39 s.vm) (wi : (Jvm.Cond.instantiable y.cls n).before a0 Z = true) (wm : (Jvm.Cond.instanceMethod y).before a0 Z = true) (wp : (Jvm.Cond.privateMethod y).before a0 Z = true) (hy : y.cls ≠ "java/lang/invoke/MethodHandle" ∧ y.cls ≠ "java/lang/invoke/VarHandle") : (Jvm.Cond.selects y.cls y y).before args s = true := by
  have w1 : (Jvm.Cond.instantiable y.cls n).before args s = true := mvT hZ wi
  obtain ⟨c, k, h1, h2, h3, h4, -⟩ := Cond.instantiable_spec w1
  have h5 : k.isInterface = false := by cases hq : k.isInterface <;> simp [hq] at h4 ⊢
  exact selects_self_of_private h1 h2 h5 (Cond.privateMethod_at (mvP hZ wp (args := args))) (mvT hZ wm) hy
theorem own_hat {T : State} {h : Heap} {a : Addr} {c : Cell} (e : T.heap = h) (q : h[a]? = some c) : T.heap[a]? = some c := by rw [e]; exact q
theorem own_nn (x : Int32) : nar .byte (nar .byte x) = nar .byte x := by
  refine Int32.toInt_inj.mp ?_
  have a := c_i2b x
  have b := c_i2b x.toInt8.toInt32
  show x.toInt8.toInt32.toInt8.toInt32.toInt = x.toInt8.toInt32.toInt
  omega
theorem own_nb (x : Int32) : nar .byte x.toInt8.toInt32 = x.toInt8.toInt32 := own_nn x
theorem own_fit {x : Int32} (h : nar .byte x = x) : fits .byte (.int x) = true := by rw [← h]; exact fits_nar_byte x
theorem own_cl {j : Int32} {i : Nat} (h : j.toInt = (i : Int)) : j.toNatClampNeg = i := by rw [Int32.toNatClampNeg, h]; rfl
theorem own_lt {a b : Int32} (h : a.toInt < b.toInt) : a < b := Int32.lt_iff_toInt_lt.mpr h
theorem own_nlt {a b : Int32} (h : b.toInt ≤ a.toInt) : ¬ a < b := fun q => absurd (Int32.lt_iff_toInt_lt.mp q) (by omega)
theorem own_ltI {a b : Int32} (h : a < b) : a.toInt < b.toInt := Int32.lt_iff_toInt_lt.mp h
theorem own_nltI {a b : Int32} (h : ¬ a < b) : b.toInt ≤ a.toInt := by have := mt Int32.lt_iff_toInt_lt.mpr h; omega
theorem own_neI {a b : Int32} (h : ¬ a = b) : ¬ a.toInt = b.toInt := fun q => h (Int32.toInt_inj.mp q)
theorem own_ltL {a b : Int64} (h : a < b) : a.toInt < b.toInt := Int64.lt_iff_toInt_lt.mp h
theorem own_nltL {a b : Int64} (h : ¬ a < b) : b.toInt ≤ a.toInt := by have := mt Int64.lt_iff_toInt_lt.mpr h; omega
theorem own_neL {a b : Int64} (h : ¬ a = b) : ¬ a.toInt = b.toInt := fun q => h (Int64.toInt_inj.mp q)
def own_bf (q : Int64) (i : Int32) : Int32 := nar .byte ((((q.toUInt64 >>> (((8 : Int32) * i) &&& 0x3f).toInt64.toUInt64).toInt64).toInt32).toInt8.toInt32)
def own_r16 (xs : List Int32) (i : Int32) : Int32 := (((xs.getD (i).toNatClampNeg 0) &&& (255 : Int32)) <<< ((8 : Int32) &&& 31)) ||| ((xs.getD (i + (1 : Int32)).toNatClampNeg 0) &&& (255 : Int32))
def own_kp (xs : List Int32) (i m : Int32) (q : Int64) : Prop := (¬ i < m ∧ ¬ (m + (3 : Int32)) < i) ∨ xs.getD (i).toNatClampNeg 0 = own_bf q i
def own_wh (xs : List Int32) (m a l : Int32) : List Int32 := ((((xs.set (m).toNatClampNeg ((a >>> ((8 : Int32) &&& 31)).toInt8.toInt32)).set ((m + (1 : Int32))).toNatClampNeg (a.toInt8.toInt32)).set ((m + (2 : Int32))).toNatClampNeg ((l >>> ((8 : Int32) &&& 31)).toInt8.toInt32)).set (((m + (2 : Int32)) + (1 : Int32))).toNatClampNeg (l.toInt8.toInt32))
theorem own_m5 {c j : Int32} (h : (c &&& (2147483647 : Int32)) % (5 : Int32) = j) : j = 0 ∨ j = 1 ∨ j = 2 ∨ j = 3 ∨ j = 4 := by
  have k : (c &&& (2147483647 : Int32)).toInt = c.toInt % 2147483648 := c_mask c 2147483647 31 (by decide) (by decide)
  have v := (c_irem (c &&& 2147483647) 5 5 (by decide)).1 (by omega)
  rw [h] at v
  have h' : j.toInt = 0 ∨ j.toInt = 1 ∨ j.toInt = 2 ∨ j.toInt = 3 ∨ j.toInt = 4 := by omega
  rcases h' with q | q | q | q | q
  · exact Or.inl (Int32.toInt_inj.mp q)
  · exact Or.inr (Or.inl (Int32.toInt_inj.mp q))
  · exact Or.inr (Or.inr (Or.inl (Int32.toInt_inj.mp q)))
  · exact Or.inr (Or.inr (Or.inr (Or.inl (Int32.toInt_inj.mp q))))
  · exact Or.inr (Or.inr (Or.inr (Or.inr (Int32.toInt_inj.mp q))))
theorem own_inn {m : Int32} (h : m = 0 ∨ m = 1 ∨ m = 2 ∨ m = 3 ∨ m = 4) : (¬ m < 0 ∧ m < 8) ∧ (¬ (m + (1 : Int32)) < 0 ∧ (m + (1 : Int32)) < 8) ∧ (¬ (m + (2 : Int32)) < 0 ∧ (m + (2 : Int32)) < 8) ∧ (¬ ((m + (2 : Int32)) + (1 : Int32)) < 0 ∧ ((m + (2 : Int32)) + (1 : Int32)) < 8) := by
  rcases h with rfl | rfl | rfl | rfl | rfl <;> decide
theorem own_inl {m : Int32} (h : m = 0 ∨ m = 1 ∨ m = 2 ∨ m = 3 ∨ m = 4) : (m).toNatClampNeg < 8 ∧ ((m + (1 : Int32))).toNatClampNeg < 8 ∧ ((m + (2 : Int32))).toNatClampNeg < 8 ∧ (((m + (2 : Int32)) + (1 : Int32))).toNatClampNeg < 8 := by
  rcases h with rfl | rfl | rfl | rfl | rfl <;> decide
/-- a 16-bit number by its two bytes -/
theorem own_16 {x a : Int32} (h : x &&& (65535 : Int32) = a) : ((((a >>> ((8 : Int32) &&& 31)).toInt8.toInt32) &&& (255 : Int32)) <<< ((8 : Int32) &&& 31)) ||| ((a.toInt8.toInt32) &&& (255 : Int32)) = a := by
  have e : (x &&& (65535 : Int32)).toInt = x.toInt % 65536 := c_mask x 65535 16 (by decide) (by decide)
  rw [h] at e
  have s : (a >>> ((8 : Int32) &&& 31)).toInt = a.toInt / 256 := c_ishr a 8 8 (by decide)
  have b1 := c_i2b (a >>> ((8 : Int32) &&& 31))
  have b2 := c_i2b a
  have m1 : (((a >>> ((8 : Int32) &&& 31)).toInt8.toInt32) &&& (255 : Int32)).toInt = ((a >>> ((8 : Int32) &&& 31)).toInt8.toInt32).toInt % 256 := c_mask _ 255 8 (by decide) (by decide)
  have m2 : ((a.toInt8.toInt32) &&& (255 : Int32)).toInt = (a.toInt8.toInt32).toInt % 256 := c_mask _ 255 8 (by decide) (by decide)
  generalize (((a >>> ((8 : Int32) &&& 31)).toInt8.toInt32) &&& (255 : Int32)) = u at *
  generalize ((a.toInt8.toInt32) &&& (255 : Int32)) = v at *
  have sl : ((u <<< ((8 : Int32) &&& 31)).toInt - u.toInt * 256) % 4294967296 = 0 := c_ishl u 8 8 (by decide)
  have r1 := rng32 (u <<< ((8 : Int32) &&& 31))
  have o := c_or (u <<< ((8 : Int32) &&& 31)) v 8 (by decide) 256 (by decide) (by omega) (by omega) (by omega)
  have r2 := rng32 ((u <<< ((8 : Int32) &&& 31)) ||| v)
  refine Int32.toInt_inj.mp ?_
  omega
theorem own_read {x0 x1 x2 x3 x4 x5 x6 x7 m a l u v : Int32} (h : m = 0 ∨ m = 1 ∨ m = 2 ∨ m = 3 ∨ m = 4) (ha : u &&& (65535 : Int32) = a) (hl : v &&& (65535 : Int32) = l) :
    own_r16 (own_wh [x0, x1, x2, x3, x4, x5, x6, x7] m a l) m = a ∧ own_r16 (own_wh [x0, x1, x2, x3, x4, x5, x6, x7] m a l) (m + (2 : Int32)) = l := by
  rcases h with rfl | rfl | rfl | rfl | rfl <;> exact ⟨own_16 ha, own_16 hl⟩
theorem own_k0 {x0 x1 x2 x3 x4 x5 x6 x7 m a l : Int32} {q : Int64} (h : m = 0 ∨ m = 1 ∨ m = 2 ∨ m = 3 ∨ m = 4) (e : x0 = own_bf q 0) : own_kp (own_wh [x0, x1, x2, x3, x4, x5, x6, x7] m a l) 0 m q := by
  rcases h with rfl | rfl | rfl | rfl | rfl <;> first | exact Or.inl ⟨by decide, by decide⟩ | exact Or.inr e
theorem own_k1 {x0 x1 x2 x3 x4 x5 x6 x7 m a l : Int32} {q : Int64} (h : m = 0 ∨ m = 1 ∨ m = 2 ∨ m = 3 ∨ m = 4) (e : x1 = own_bf q 1) : own_kp (own_wh [x0, x1, x2, x3, x4, x5, x6, x7] m a l) 1 m q := by
  rcases h with rfl | rfl | rfl | rfl | rfl <;> first | exact Or.inl ⟨by decide, by decide⟩ | exact Or.inr e
theorem own_k2 {x0 x1 x2 x3 x4 x5 x6 x7 m a l : Int32} {q : Int64} (h : m = 0 ∨ m = 1 ∨ m = 2 ∨ m = 3 ∨ m = 4) (e : x2 = own_bf q 2) : own_kp (own_wh [x0, x1, x2, x3, x4, x5, x6, x7] m a l) 2 m q := by
  rcases h with rfl | rfl | rfl | rfl | rfl <;> first | exact Or.inl ⟨by decide, by decide⟩ | exact Or.inr e
theorem own_k3 {x0 x1 x2 x3 x4 x5 x6 x7 m a l : Int32} {q : Int64} (h : m = 0 ∨ m = 1 ∨ m = 2 ∨ m = 3 ∨ m = 4) (e : x3 = own_bf q 3) : own_kp (own_wh [x0, x1, x2, x3, x4, x5, x6, x7] m a l) 3 m q := by
  rcases h with rfl | rfl | rfl | rfl | rfl <;> first | exact Or.inl ⟨by decide, by decide⟩ | exact Or.inr e
theorem own_k4 {x0 x1 x2 x3 x4 x5 x6 x7 m a l : Int32} {q : Int64} (h : m = 0 ∨ m = 1 ∨ m = 2 ∨ m = 3 ∨ m = 4) (e : x4 = own_bf q 4) : own_kp (own_wh [x0, x1, x2, x3, x4, x5, x6, x7] m a l) 4 m q := by
  rcases h with rfl | rfl | rfl | rfl | rfl <;> first | exact Or.inl ⟨by decide, by decide⟩ | exact Or.inr e
theorem own_k5 {x0 x1 x2 x3 x4 x5 x6 x7 m a l : Int32} {q : Int64} (h : m = 0 ∨ m = 1 ∨ m = 2 ∨ m = 3 ∨ m = 4) (e : x5 = own_bf q 5) : own_kp (own_wh [x0, x1, x2, x3, x4, x5, x6, x7] m a l) 5 m q := by
  rcases h with rfl | rfl | rfl | rfl | rfl <;> first | exact Or.inl ⟨by decide, by decide⟩ | exact Or.inr e
theorem own_k6 {x0 x1 x2 x3 x4 x5 x6 x7 m a l : Int32} {q : Int64} (h : m = 0 ∨ m = 1 ∨ m = 2 ∨ m = 3 ∨ m = 4) (e : x6 = own_bf q 6) : own_kp (own_wh [x0, x1, x2, x3, x4, x5, x6, x7] m a l) 6 m q := by
  rcases h with rfl | rfl | rfl | rfl | rfl <;> first | exact Or.inl ⟨by decide, by decide⟩ | exact Or.inr e
theorem own_k7 {x0 x1 x2 x3 x4 x5 x6 x7 m a l : Int32} {q : Int64} (h : m = 0 ∨ m = 1 ∨ m = 2 ∨ m = 3 ∨ m = 4) (e : x7 = own_bf q 7) : own_kp (own_wh [x0, x1, x2, x3, x4, x5, x6, x7] m a l) 7 m q := by
  rcases h with rfl | rfl | rfl | rfl | rfl <;> first | exact Or.inl ⟨by decide, by decide⟩ | exact Or.inr e
theorem d1_0 : decode method_2_code 0 = .ok (.lload_n 0, 1) := by decide +kernel
theorem d1_1 : decode method_2_code 1 = .ok (.bipush 8, 2) := by decide +kernel
theorem d1_3 : decode method_2_code 3 = .ok (.iload_n 2, 1) := by decide +kernel
theorem d1_4 : decode method_2_code 4 = .ok (.imul, 1) := by decide +kernel
theorem d1_5 : decode method_2_code 5 = .ok (.lushr, 1) := by decide +kernel
theorem d1_6 : decode method_2_code 6 = .ok (.l2i, 1) := by decide +kernel
theorem d1_7 : decode method_2_code 7 = .ok (.i2b, 1) := by decide +kernel
theorem d1_8 : decode method_2_code 8 = .ok (.ireturn, 1) := by decide +kernel
theorem pn_1 : plainName "com/example/micrologue/micrologue/BytecodeWriteHeaderPinLaw" = true := by first | (simp [plainName, overriddenIn]; done) | decide +kernel
theorem ef_1 (m : MethodId) (x0 : Int64) (x1 : Int32) : entryFrame m #[(.long x0), (.int x1)] 3 = mkF m 0 #[.val (.long x0), .second, .val (.int x1)] [] := by first | (simp [entryFrame, mkF, argsToLocals, Value.category]; done) | rfl
def Q1 (Z : State) (q1 : Int64) (p2 : Int32) (h0 : Heap) (n0 : Nat) (v : Option Value) (h : Heap) (L : List Loc) : Prop := ∃ (r : Int32), v = some (.int r) ∧ (r = own_bf q1 p2) ∧ Fr n0 L ∧ h = h0
set_option maxRecDepth 65536 in
set_option maxHeartbeats 40000000 in
theorem rm1 (l : Launch) (Z : State) (a0 : Array Value) (hw : ∀ d ∈ tables_1, d.before a0 Z = true) (ws : List Jvm.Cond) (q1 : Int64) (p2 : Int32) (h0 : Heap) (n0 : Nat) (Z0 : n0 ≤ h0.size)  :
    MetFree l (⟨"com/example/micrologue/micrologue/BytecodeWriteHeaderPinLaw", "before", "(JI)B"⟩ : MethodName) (head1 (Jvm.Cond.code (⟨"com/example/micrologue/micrologue/BytecodeWriteHeaderPinLaw", "before", "(JI)B"⟩ : MethodName) method_2_code 3 (some .byte) :: ws) ({ frames := 0, cells := 0, slots := 0, locals := 0 } : Room)) (fun a U => a = #[(.long q1), (.int p2)] ∧ Z.Warmed39 U.vm ∧ U.heap = h0) (fun _ _ _ _ _ => True) (fun _ U o U' => ∃ v L, o = .returned v ∧ Q1 Z q1 p2 h0 n0 v U'.heap L ∧ FrameEnd U o U' L ({ frames := 0, cells := 0, slots := 0, locals := 0 } : Room).cells ({ frames := 0, cells := 0, slots := 0, locals := 0 } : Room).slots) := by
  refine MetFree.of_bodySF (plainFor_of_name pn_1) hisR ?_
  intro p e s m args below meth c s₁ Bd hml0 hP hK
  obtain ⟨rfl, hZ, hh⟩ := hP
  have hx := Bd.exec
  have hby := Bd.bytes
  have hml : c.maxLocals = 3 := hml0
  have hown : s.vm.findClass "com/example/micrologue/micrologue/BytecodeWriteHeaderPinLaw" = some m.cls := findClass_of_methodNamed Bd.named
  have hnm := (name_of_methodNamed Bd.named Bd.method).1
  have X0 : Stand p l e ({ frames := 0, cells := 0, slots := 0, locals := 0 } : Room) s m #[(.long q1), (.int p2)] below meth c s₁ [] 0 0 := Stand.of_body Bd
  have e0 : s₁.heap = h0 := by rw [← hh, Bd.state]; rfl
  have N0 := Fr.nil n0
  suffices G0 : ∀ K : State → Prop, (∀ (n : State) (v : Option Value) (L : List Loc), n.status = .running → Ended n below (.returned v) → Q1 Z q1 p2 h0 n0 v n.heap L → FrameEnd s (.returned v) n L ({ frames := 0, cells := 0, slots := 0, locals := 0 } : Room).cells ({ frames := 0, cells := 0, slots := 0, locals := 0 } : Room).slots → K n) → own_Go p e below K (s₁.setTop (mkF m 0 #[.val (.long q1), .second, .val (.int p2)] [])) by
    obtain ⟨t, st, o, a, b, v, L, e1, q, fe⟩ := G0 (fun n => ∃ o, n.status = .running ∧ Ended n below o ∧ ∃ v L, o = .returned v ∧ Q1 Z q1 p2 h0 n0 v n.heap L ∧ FrameEnd s o n L ({ frames := 0, cells := 0, slots := 0, locals := 0 } : Room).cells ({ frames := 0, cells := 0, slots := 0, locals := 0 } : Room).slots) (fun n v L a b q f => ⟨_, a, b, v, L, rfl, q, f⟩)
    exact ⟨t, o, castTop (ef_1 m q1 p2) st, a, b, v, L, e1, q, fe⟩
  intro K fin
  show own_Go p e below K (s₁.setTop (mkF m 0 #[.val (.long q1), .second, .val (.int p2)] []))
  refine own_st (fun t k => XS.lloadN X0.here hx rfl (hb hby d1_0) rfl k) ?_
  show own_Go p e below K (s₁.setTop (mkF m 1 #[.val (.long q1), .second, .val (.int p2)] [(.long q1)]))
  refine own_st (fun t k => XS.bipush X0.here hx rfl (hb hby d1_1) k) ?_
  show own_Go p e below K (s₁.setTop (mkF m 3 #[.val (.long q1), .second, .val (.int p2)] [(.int (8 : Int32)), (.long q1)]))
  refine own_st (fun t k => XS.iloadN X0.here hx rfl (hb hby d1_3) rfl k) ?_
  show own_Go p e below K (s₁.setTop (mkF m 4 #[.val (.long q1), .second, .val (.int p2)] [(.int p2), (.int (8 : Int32)), (.long q1)]))
  refine own_st (fun t k => XS.imul X0.here hx rfl (hb hby d1_4) rfl k) ?_
  show own_Go p e below K (s₁.setTop (mkF m 5 #[.val (.long q1), .second, .val (.int p2)] [(.int ((8 : Int32) * p2)), (.long q1)]))
  refine own_st (fun t k => XS.lushr X0.here hx rfl (hb hby d1_5) rfl k) ?_
  show own_Go p e below K (s₁.setTop (mkF m 6 #[.val (.long q1), .second, .val (.int p2)] [(.long ((q1.toUInt64 >>> (((8 : Int32) * p2) &&& 0x3f).toInt64.toUInt64).toInt64))]))
  refine own_st (fun t k => XS.l2i X0.here hx rfl (hb hby d1_6) rfl k) ?_
  show own_Go p e below K (s₁.setTop (mkF m 7 #[.val (.long q1), .second, .val (.int p2)] [(.int (((q1.toUInt64 >>> (((8 : Int32) * p2) &&& 0x3f).toInt64.toUInt64).toInt64).toInt32))]))
  refine own_st (fun t k => XS.i2b X0.here hx rfl (hb hby d1_7) rfl k) ?_
  show own_Go p e below K (s₁.setTop (mkF m 8 #[.val (.long q1), .second, .val (.int p2)] [(.int ((((q1.toUInt64 >>> (((8 : Int32) * p2) &&& 0x3f).toInt64.toUInt64).toInt64).toInt32).toInt8.toInt32))]))
  obtain ⟨fs, hr, hrun, hended, hW, hsame⟩ := X0.leave (v := some (.int (nar .byte ((((q1.toUInt64 >>> (((8 : Int32) * p2) &&& 0x3f).toInt64.toUInt64).toInt64).toInt32).toInt8.toInt32)))) (fun h => by rw [Bd.returns] at h; cases h)
  refine ⟨_, retN X0 hx (t := .byte) Bd.returns (by simp) (hb hby d1_8) hr, fin _ _ _ hrun hended ?_ ⟨⟨_, rfl⟩, hW, hsame.mono (by decide) (by decide)⟩⟩
  show Q1 Z q1 p2 h0 n0 _ s₁.heap _
  rw [e0]
  exact ⟨_, rfl, rfl, N0, rfl⟩
theorem d2_0 : decode prog_10_method_8_code 0 = .ok (.aload_n 0, 1) := by decide +kernel
theorem d2_1 : decode prog_10_method_8_code 1 = .ok (.iload_n 1, 1) := by decide +kernel
theorem d2_2 : decode prog_10_method_8_code 2 = .ok (.iload_n 2, 1) := by decide +kernel
theorem d2_3 : decode prog_10_method_8_code 3 = .ok (.bipush 8, 2) := by decide +kernel
theorem d2_5 : decode prog_10_method_8_code 5 = .ok (.ishr, 1) := by decide +kernel
theorem d2_6 : decode prog_10_method_8_code 6 = .ok (.i2b, 1) := by decide +kernel
theorem d2_7 : decode prog_10_method_8_code 7 = .ok (.bastore, 1) := by decide +kernel
theorem d2_8 : decode prog_10_method_8_code 8 = .ok (.aload_n 0, 1) := by decide +kernel
theorem d2_9 : decode prog_10_method_8_code 9 = .ok (.iload_n 1, 1) := by decide +kernel
theorem d2_10 : decode prog_10_method_8_code 10 = .ok (.iconst 1, 1) := by decide +kernel
theorem d2_11 : decode prog_10_method_8_code 11 = .ok (.iadd, 1) := by decide +kernel
theorem d2_12 : decode prog_10_method_8_code 12 = .ok (.iload_n 2, 1) := by decide +kernel
theorem d2_13 : decode prog_10_method_8_code 13 = .ok (.i2b, 1) := by decide +kernel
theorem d2_14 : decode prog_10_method_8_code 14 = .ok (.bastore, 1) := by decide +kernel
theorem d2_15 : decode prog_10_method_8_code 15 = .ok (.aload_n 0, 1) := by decide +kernel
theorem d2_16 : decode prog_10_method_8_code 16 = .ok (.iload_n 1, 1) := by decide +kernel
theorem d2_17 : decode prog_10_method_8_code 17 = .ok (.iconst 2, 1) := by decide +kernel
theorem d2_18 : decode prog_10_method_8_code 18 = .ok (.iadd, 1) := by decide +kernel
theorem d2_19 : decode prog_10_method_8_code 19 = .ok (.iload_n 3, 1) := by decide +kernel
theorem d2_20 : decode prog_10_method_8_code 20 = .ok (.bipush 8, 2) := by decide +kernel
theorem d2_22 : decode prog_10_method_8_code 22 = .ok (.ishr, 1) := by decide +kernel
theorem d2_23 : decode prog_10_method_8_code 23 = .ok (.i2b, 1) := by decide +kernel
theorem d2_24 : decode prog_10_method_8_code 24 = .ok (.bastore, 1) := by decide +kernel
theorem d2_25 : decode prog_10_method_8_code 25 = .ok (.aload_n 0, 1) := by decide +kernel
theorem d2_26 : decode prog_10_method_8_code 26 = .ok (.iload_n 1, 1) := by decide +kernel
theorem d2_27 : decode prog_10_method_8_code 27 = .ok (.iconst 2, 1) := by decide +kernel
theorem d2_28 : decode prog_10_method_8_code 28 = .ok (.iadd, 1) := by decide +kernel
theorem d2_29 : decode prog_10_method_8_code 29 = .ok (.iconst 1, 1) := by decide +kernel
theorem d2_30 : decode prog_10_method_8_code 30 = .ok (.iadd, 1) := by decide +kernel
theorem d2_31 : decode prog_10_method_8_code 31 = .ok (.iload_n 3, 1) := by decide +kernel
theorem d2_32 : decode prog_10_method_8_code 32 = .ok (.i2b, 1) := by decide +kernel
theorem d2_33 : decode prog_10_method_8_code 33 = .ok (.bastore, 1) := by decide +kernel
theorem d2_34 : decode prog_10_method_8_code 34 = .ok (.return_, 1) := by decide +kernel
theorem pn_2 : plainName "com/example/micrologue/micrologue/Bytecode" = true := by first | (simp [plainName, overriddenIn]; done) | decide +kernel
theorem ef_2 (m : MethodId) (x0 : Addr) (x1 : Int32) (x2 : Int32) (x3 : Int32) : entryFrame m #[(.ref x0), (.int x1), (.int x2), (.int x3)] 4 = mkF m 0 #[.val (.ref x0), .val (.int x1), .val (.int x2), .val (.int x3)] [] := by first | (simp [entryFrame, mkF, argsToLocals, Value.category]; done) | rfl
def Q2 (Z : State) (a1 : Addr) (p2 : Int32) (p3 : Int32) (p4 : Int32) (xk : ClassId) (xn : Int32) (xs : List Int32) (h0 : Heap) (n0 : Nat) (v : Option Value) (h : Heap) (L : List Loc) : Prop := v = none ∧ Fr n0 L ∧ Keep h0 h [a1] ∧ (Arv Z h a1 xk .byte xn ((own_wh xs p2 p3 p4).map Value.int) (.int (0 : Int32)))
set_option maxRecDepth 65536 in
set_option maxHeartbeats 40000000 in
theorem rm2 (l : Launch) (Z : State) (a0 : Array Value) (hw : ∀ d ∈ tables_1, d.before a0 Z = true) (ws : List Jvm.Cond) (a1 : Addr) (p2 : Int32) (p3 : Int32) (p4 : Int32) (xk : ClassId) (xn : Int32) (xs : List Int32) (h0 : Heap) (n0 : Nat) (Z0 : n0 ≤ h0.size) (g_a1 : n0 ≤ a1) (P0 : Arv Z h0 a1 xk .byte xn (xs.map Value.int) (.int (0 : Int32))) (hi : (¬ p2 < 0 ∧ p2 < xn) ∧ (¬ (p2 + (1 : Int32)) < 0 ∧ (p2 + (1 : Int32)) < xn) ∧ (¬ (p2 + (2 : Int32)) < 0 ∧ (p2 + (2 : Int32)) < xn) ∧ (¬ ((p2 + (2 : Int32)) + (1 : Int32)) < 0 ∧ ((p2 + (2 : Int32)) + (1 : Int32)) < xn)) (hl : (p2).toNatClampNeg < xs.length ∧ ((p2 + (1 : Int32))).toNatClampNeg < xs.length ∧ ((p2 + (2 : Int32))).toNatClampNeg < xs.length ∧ (((p2 + (2 : Int32)) + (1 : Int32))).toNatClampNeg < xs.length) :
    MetFree l (⟨"com/example/micrologue/micrologue/Bytecode", "writeHeader", "([BIII)V"⟩ : MethodName) (head1 (Jvm.Cond.code (⟨"com/example/micrologue/micrologue/Bytecode", "writeHeader", "([BIII)V"⟩ : MethodName) prog_10_method_8_code 4 none :: ws) ({ frames := 0, cells := 0, slots := 0, locals := 0 } : Room)) (fun a U => a = #[(.ref a1), (.int p2), (.int p3), (.int p4)] ∧ Z.Warmed39 U.vm ∧ U.heap = h0) (fun _ _ _ _ _ => True) (fun _ U o U' => ∃ v L, o = .returned v ∧ Q2 Z a1 p2 p3 p4 xk xn xs h0 n0 v U'.heap L ∧ FrameEnd U o U' L ({ frames := 0, cells := 0, slots := 0, locals := 0 } : Room).cells ({ frames := 0, cells := 0, slots := 0, locals := 0 } : Room).slots) := by
  refine MetFree.of_bodySF (plainFor_of_name pn_2) hisR ?_
  intro p e s m args below meth c s₁ Bd hml0 hP hK
  obtain ⟨rfl, hZ, hh⟩ := hP
  have hx := Bd.exec
  have hby := Bd.bytes
  have hml : c.maxLocals = 4 := hml0
  have hown : s.vm.findClass "com/example/micrologue/micrologue/Bytecode" = some m.cls := findClass_of_methodNamed Bd.named
  have hnm := (name_of_methodNamed Bd.named Bd.method).1
  have X0 : Stand p l e ({ frames := 0, cells := 0, slots := 0, locals := 0 } : Room) s m #[(.ref a1), (.int p2), (.int p3), (.int p4)] below meth c s₁ [] 0 0 := Stand.of_body Bd
  have e0 : s₁.heap = h0 := by rw [← hh, Bd.state]; rfl
  have N0 := Fr.nil n0
  suffices G0 : ∀ K : State → Prop, (∀ (n : State) (v : Option Value) (L : List Loc), n.status = .running → Ended n below (.returned v) → Q2 Z a1 p2 p3 p4 xk xn xs h0 n0 v n.heap L → FrameEnd s (.returned v) n L ({ frames := 0, cells := 0, slots := 0, locals := 0 } : Room).cells ({ frames := 0, cells := 0, slots := 0, locals := 0 } : Room).slots → K n) → own_Go p e below K (s₁.setTop (mkF m 0 #[.val (.ref a1), .val (.int p2), .val (.int p3), .val (.int p4)] [])) by
    obtain ⟨t, st, o, a, b, v, L, e1, q, fe⟩ := G0 (fun n => ∃ o, n.status = .running ∧ Ended n below o ∧ ∃ v L, o = .returned v ∧ Q2 Z a1 p2 p3 p4 xk xn xs h0 n0 v n.heap L ∧ FrameEnd s o n L ({ frames := 0, cells := 0, slots := 0, locals := 0 } : Room).cells ({ frames := 0, cells := 0, slots := 0, locals := 0 } : Room).slots) (fun n v L a b q f => ⟨_, a, b, v, L, rfl, q, f⟩)
    exact ⟨t, o, castTop (ef_2 m a1 p2 p3 p4) st, a, b, v, L, e1, q, fe⟩
  intro K fin
  show own_Go p e below K (s₁.setTop (mkF m 0 #[.val (.ref a1), .val (.int p2), .val (.int p3), .val (.int p4)] []))
  refine own_st (fun t k => XS.aloadN X0.here hx rfl (hb hby d2_0) rfl rfl k) ?_
  show own_Go p e below K (s₁.setTop (mkF m 1 #[.val (.ref a1), .val (.int p2), .val (.int p3), .val (.int p4)] [(.ref a1)]))
  refine own_st (fun t k => XS.iloadN X0.here hx rfl (hb hby d2_1) rfl k) ?_
  show own_Go p e below K (s₁.setTop (mkF m 2 #[.val (.ref a1), .val (.int p2), .val (.int p3), .val (.int p4)] [(.int p2), (.ref a1)]))
  refine own_st (fun t k => XS.iloadN X0.here hx rfl (hb hby d2_2) rfl k) ?_
  show own_Go p e below K (s₁.setTop (mkF m 3 #[.val (.ref a1), .val (.int p2), .val (.int p3), .val (.int p4)] [(.int p3), (.int p2), (.ref a1)]))
  refine own_st (fun t k => XS.bipush X0.here hx rfl (hb hby d2_3) k) ?_
  show own_Go p e below K (s₁.setTop (mkF m 5 #[.val (.ref a1), .val (.int p2), .val (.int p3), .val (.int p4)] [(.int (8 : Int32)), (.int p3), (.int p2), (.ref a1)]))
  refine own_st (fun t k => XS.ishr X0.here hx rfl (hb hby d2_5) rfl k) ?_
  show own_Go p e below K (s₁.setTop (mkF m 6 #[.val (.ref a1), .val (.int p2), .val (.int p3), .val (.int p4)] [(.int (p3 >>> ((8 : Int32) &&& 31))), (.int p2), (.ref a1)]))
  refine own_st (fun t k => XS.i2b X0.here hx rfl (hb hby d2_6) rfl k) ?_
  show own_Go p e below K (s₁.setTop (mkF m 7 #[.val (.ref a1), .val (.int p2), .val (.int p3), .val (.int p4)] [(.int ((p3 >>> ((8 : Int32) &&& 31)).toInt8.toInt32)), (.int p2), (.ref a1)]))
  obtain ⟨cl1, Ar1, qa1, Sa1, Ma1, Ha1, Ga1⟩ := id P0
  have hin1 : ¬ (p2 < 0 ∨ cl1.slots.size ≤ (p2).toNatClampNeg) := inb_of Sa1 hi.1
  obtain ⟨T2, h2, X2, e2, W2, st2⟩ := stB X0 hx hZ e0 Ar1 (j := p2) hin1 (g := (mkF m 7 #[.val (.ref a1), .val (.int p2), .val (.int p3), .val (.int p4)] [(.int ((p3 >>> ((8 : Int32) &&& 31)).toInt8.toInt32)), (.int p2), (.ref a1)])) rfl rfl (hb hby d2_7)
  have id2 : nar .byte ((p3 >>> ((8 : Int32) &&& 31)).toInt8.toInt32) = ((p3 >>> ((8 : Int32) &&& 31)).toInt8.toInt32) := (own_nb _)
  rw [id2] at W2
  have V2 : Arv Z h2 a1 xk .byte xn ((xs.set (p2).toNatClampNeg ((p3 >>> ((8 : Int32) &&& 31)).toInt8.toInt32)).map Value.int) (.int (0 : Int32)) := by
    rw [List.map_set]
    exact Arv.set Ar1 qa1 Sa1 Ma1 Ha1 Ga1 (own_fit id2) W2 _ rfl (by rw [List.length_map]; exact hl.1)
  have N2 := Fr.snoc X2 N0 g_a1
  have Z2 : n0 ≤ h2.size := Nat.le_trans Z0 (Keep.of_wr W2).1
  have K2 : Keep h0 h2 [a1] := (Keep.refl h0 [a1]).wr W2 (Or.inl (List.mem_of_getElem? (i := 0) rfl))
  refine own_st st2 ?_
  show own_Go p e below K (T2.setTop (mkF m 8 #[.val (.ref a1), .val (.int p2), .val (.int p3), .val (.int p4)] []))
  try clear st2
  refine own_st (fun t k => XS.aloadN X2.here hx rfl (hb hby d2_8) rfl rfl k) ?_
  show own_Go p e below K (T2.setTop (mkF m 9 #[.val (.ref a1), .val (.int p2), .val (.int p3), .val (.int p4)] [(.ref a1)]))
  refine own_st (fun t k => XS.iloadN X2.here hx rfl (hb hby d2_9) rfl k) ?_
  show own_Go p e below K (T2.setTop (mkF m 10 #[.val (.ref a1), .val (.int p2), .val (.int p3), .val (.int p4)] [(.int p2), (.ref a1)]))
  refine own_st (fun t k => XS.iconst X2.here hx rfl (hb hby d2_10) k) ?_
  show own_Go p e below K (T2.setTop (mkF m 11 #[.val (.ref a1), .val (.int p2), .val (.int p3), .val (.int p4)] [(.int (1 : Int32)), (.int p2), (.ref a1)]))
  refine own_st (fun t k => XS.iadd X2.here hx rfl (hb hby d2_11) rfl k) ?_
  show own_Go p e below K (T2.setTop (mkF m 12 #[.val (.ref a1), .val (.int p2), .val (.int p3), .val (.int p4)] [(.int (p2 + (1 : Int32))), (.ref a1)]))
  refine own_st (fun t k => XS.iloadN X2.here hx rfl (hb hby d2_12) rfl k) ?_
  show own_Go p e below K (T2.setTop (mkF m 13 #[.val (.ref a1), .val (.int p2), .val (.int p3), .val (.int p4)] [(.int p3), (.int (p2 + (1 : Int32))), (.ref a1)]))
  refine own_st (fun t k => XS.i2b X2.here hx rfl (hb hby d2_13) rfl k) ?_
  show own_Go p e below K (T2.setTop (mkF m 14 #[.val (.ref a1), .val (.int p2), .val (.int p3), .val (.int p4)] [(.int (p3.toInt8.toInt32)), (.int (p2 + (1 : Int32))), (.ref a1)]))
  obtain ⟨cl3, Ar3, qa3, Sa3, Ma3, Ha3, Ga3⟩ := id V2
  have hin3 : ¬ ((p2 + (1 : Int32)) < 0 ∨ cl3.slots.size ≤ ((p2 + (1 : Int32))).toNatClampNeg) := inb_of Sa3 hi.2.1
  obtain ⟨T4, h4, X4, e4, W4, st4⟩ := stB X2 hx hZ e2 Ar3 (j := (p2 + (1 : Int32))) hin3 (g := (mkF m 14 #[.val (.ref a1), .val (.int p2), .val (.int p3), .val (.int p4)] [(.int (p3.toInt8.toInt32)), (.int (p2 + (1 : Int32))), (.ref a1)])) rfl rfl (hb hby d2_14)
  have id4 : nar .byte (p3.toInt8.toInt32) = (p3.toInt8.toInt32) := (own_nb _)
  rw [id4] at W4
  have V4 : Arv Z h4 a1 xk .byte xn (((xs.set (p2).toNatClampNeg ((p3 >>> ((8 : Int32) &&& 31)).toInt8.toInt32)).set ((p2 + (1 : Int32))).toNatClampNeg (p3.toInt8.toInt32)).map Value.int) (.int (0 : Int32)) := by
    rw [List.map_set]
    exact Arv.set Ar3 qa3 Sa3 Ma3 Ha3 Ga3 (own_fit id4) W4 _ rfl (by rw [List.length_map]; exact (by rw [List.length_set]; exact hl.2.1))
  have N4 := Fr.snoc X4 N2 g_a1
  have Z4 : n0 ≤ h4.size := Nat.le_trans Z2 (Keep.of_wr W4).1
  have K4 : Keep h0 h4 [a1] := K2.wr W4 (Or.inl (List.mem_of_getElem? (i := 0) rfl))
  refine own_st st4 ?_
  show own_Go p e below K (T4.setTop (mkF m 15 #[.val (.ref a1), .val (.int p2), .val (.int p3), .val (.int p4)] []))
  try clear X2 e2 st4
  refine own_st (fun t k => XS.aloadN X4.here hx rfl (hb hby d2_15) rfl rfl k) ?_
  show own_Go p e below K (T4.setTop (mkF m 16 #[.val (.ref a1), .val (.int p2), .val (.int p3), .val (.int p4)] [(.ref a1)]))
  refine own_st (fun t k => XS.iloadN X4.here hx rfl (hb hby d2_16) rfl k) ?_
  show own_Go p e below K (T4.setTop (mkF m 17 #[.val (.ref a1), .val (.int p2), .val (.int p3), .val (.int p4)] [(.int p2), (.ref a1)]))
  refine own_st (fun t k => XS.iconst X4.here hx rfl (hb hby d2_17) k) ?_
  show own_Go p e below K (T4.setTop (mkF m 18 #[.val (.ref a1), .val (.int p2), .val (.int p3), .val (.int p4)] [(.int (2 : Int32)), (.int p2), (.ref a1)]))
  refine own_st (fun t k => XS.iadd X4.here hx rfl (hb hby d2_18) rfl k) ?_
  show own_Go p e below K (T4.setTop (mkF m 19 #[.val (.ref a1), .val (.int p2), .val (.int p3), .val (.int p4)] [(.int (p2 + (2 : Int32))), (.ref a1)]))
  refine own_st (fun t k => XS.iloadN X4.here hx rfl (hb hby d2_19) rfl k) ?_
  show own_Go p e below K (T4.setTop (mkF m 20 #[.val (.ref a1), .val (.int p2), .val (.int p3), .val (.int p4)] [(.int p4), (.int (p2 + (2 : Int32))), (.ref a1)]))
  refine own_st (fun t k => XS.bipush X4.here hx rfl (hb hby d2_20) k) ?_
  show own_Go p e below K (T4.setTop (mkF m 22 #[.val (.ref a1), .val (.int p2), .val (.int p3), .val (.int p4)] [(.int (8 : Int32)), (.int p4), (.int (p2 + (2 : Int32))), (.ref a1)]))
  refine own_st (fun t k => XS.ishr X4.here hx rfl (hb hby d2_22) rfl k) ?_
  show own_Go p e below K (T4.setTop (mkF m 23 #[.val (.ref a1), .val (.int p2), .val (.int p3), .val (.int p4)] [(.int (p4 >>> ((8 : Int32) &&& 31))), (.int (p2 + (2 : Int32))), (.ref a1)]))
  refine own_st (fun t k => XS.i2b X4.here hx rfl (hb hby d2_23) rfl k) ?_
  show own_Go p e below K (T4.setTop (mkF m 24 #[.val (.ref a1), .val (.int p2), .val (.int p3), .val (.int p4)] [(.int ((p4 >>> ((8 : Int32) &&& 31)).toInt8.toInt32)), (.int (p2 + (2 : Int32))), (.ref a1)]))
  obtain ⟨cl5, Ar5, qa5, Sa5, Ma5, Ha5, Ga5⟩ := id V4
  have hin5 : ¬ ((p2 + (2 : Int32)) < 0 ∨ cl5.slots.size ≤ ((p2 + (2 : Int32))).toNatClampNeg) := inb_of Sa5 hi.2.2.1
  obtain ⟨T6, h6, X6, e6, W6, st6⟩ := stB X4 hx hZ e4 Ar5 (j := (p2 + (2 : Int32))) hin5 (g := (mkF m 24 #[.val (.ref a1), .val (.int p2), .val (.int p3), .val (.int p4)] [(.int ((p4 >>> ((8 : Int32) &&& 31)).toInt8.toInt32)), (.int (p2 + (2 : Int32))), (.ref a1)])) rfl rfl (hb hby d2_24)
  have id6 : nar .byte ((p4 >>> ((8 : Int32) &&& 31)).toInt8.toInt32) = ((p4 >>> ((8 : Int32) &&& 31)).toInt8.toInt32) := (own_nb _)
  rw [id6] at W6
  have V6 : Arv Z h6 a1 xk .byte xn ((((xs.set (p2).toNatClampNeg ((p3 >>> ((8 : Int32) &&& 31)).toInt8.toInt32)).set ((p2 + (1 : Int32))).toNatClampNeg (p3.toInt8.toInt32)).set ((p2 + (2 : Int32))).toNatClampNeg ((p4 >>> ((8 : Int32) &&& 31)).toInt8.toInt32)).map Value.int) (.int (0 : Int32)) := by
    rw [List.map_set]
    exact Arv.set Ar5 qa5 Sa5 Ma5 Ha5 Ga5 (own_fit id6) W6 _ rfl (by rw [List.length_map]; exact (by rw [List.length_set, List.length_set]; exact hl.2.2.1))
  have N6 := Fr.snoc X6 N4 g_a1
  have Z6 : n0 ≤ h6.size := Nat.le_trans Z4 (Keep.of_wr W6).1
  have K6 : Keep h0 h6 [a1] := K4.wr W6 (Or.inl (List.mem_of_getElem? (i := 0) rfl))
  refine own_st st6 ?_
  show own_Go p e below K (T6.setTop (mkF m 25 #[.val (.ref a1), .val (.int p2), .val (.int p3), .val (.int p4)] []))
  try clear X4 e4 st6
  refine own_st (fun t k => XS.aloadN X6.here hx rfl (hb hby d2_25) rfl rfl k) ?_
  show own_Go p e below K (T6.setTop (mkF m 26 #[.val (.ref a1), .val (.int p2), .val (.int p3), .val (.int p4)] [(.ref a1)]))
  refine own_st (fun t k => XS.iloadN X6.here hx rfl (hb hby d2_26) rfl k) ?_
  show own_Go p e below K (T6.setTop (mkF m 27 #[.val (.ref a1), .val (.int p2), .val (.int p3), .val (.int p4)] [(.int p2), (.ref a1)]))
  refine own_st (fun t k => XS.iconst X6.here hx rfl (hb hby d2_27) k) ?_
  show own_Go p e below K (T6.setTop (mkF m 28 #[.val (.ref a1), .val (.int p2), .val (.int p3), .val (.int p4)] [(.int (2 : Int32)), (.int p2), (.ref a1)]))
  refine own_st (fun t k => XS.iadd X6.here hx rfl (hb hby d2_28) rfl k) ?_
  show own_Go p e below K (T6.setTop (mkF m 29 #[.val (.ref a1), .val (.int p2), .val (.int p3), .val (.int p4)] [(.int (p2 + (2 : Int32))), (.ref a1)]))
  refine own_st (fun t k => XS.iconst X6.here hx rfl (hb hby d2_29) k) ?_
  show own_Go p e below K (T6.setTop (mkF m 30 #[.val (.ref a1), .val (.int p2), .val (.int p3), .val (.int p4)] [(.int (1 : Int32)), (.int (p2 + (2 : Int32))), (.ref a1)]))
  refine own_st (fun t k => XS.iadd X6.here hx rfl (hb hby d2_30) rfl k) ?_
  show own_Go p e below K (T6.setTop (mkF m 31 #[.val (.ref a1), .val (.int p2), .val (.int p3), .val (.int p4)] [(.int ((p2 + (2 : Int32)) + (1 : Int32))), (.ref a1)]))
  refine own_st (fun t k => XS.iloadN X6.here hx rfl (hb hby d2_31) rfl k) ?_
  show own_Go p e below K (T6.setTop (mkF m 32 #[.val (.ref a1), .val (.int p2), .val (.int p3), .val (.int p4)] [(.int p4), (.int ((p2 + (2 : Int32)) + (1 : Int32))), (.ref a1)]))
  refine own_st (fun t k => XS.i2b X6.here hx rfl (hb hby d2_32) rfl k) ?_
  show own_Go p e below K (T6.setTop (mkF m 33 #[.val (.ref a1), .val (.int p2), .val (.int p3), .val (.int p4)] [(.int (p4.toInt8.toInt32)), (.int ((p2 + (2 : Int32)) + (1 : Int32))), (.ref a1)]))
  obtain ⟨cl7, Ar7, qa7, Sa7, Ma7, Ha7, Ga7⟩ := id V6
  have hin7 : ¬ (((p2 + (2 : Int32)) + (1 : Int32)) < 0 ∨ cl7.slots.size ≤ (((p2 + (2 : Int32)) + (1 : Int32))).toNatClampNeg) := inb_of Sa7 hi.2.2.2
  obtain ⟨T8, h8, X8, e8, W8, st8⟩ := stB X6 hx hZ e6 Ar7 (j := ((p2 + (2 : Int32)) + (1 : Int32))) hin7 (g := (mkF m 33 #[.val (.ref a1), .val (.int p2), .val (.int p3), .val (.int p4)] [(.int (p4.toInt8.toInt32)), (.int ((p2 + (2 : Int32)) + (1 : Int32))), (.ref a1)])) rfl rfl (hb hby d2_33)
  have id8 : nar .byte (p4.toInt8.toInt32) = (p4.toInt8.toInt32) := (own_nb _)
  rw [id8] at W8
  have V8 : Arv Z h8 a1 xk .byte xn (((((xs.set (p2).toNatClampNeg ((p3 >>> ((8 : Int32) &&& 31)).toInt8.toInt32)).set ((p2 + (1 : Int32))).toNatClampNeg (p3.toInt8.toInt32)).set ((p2 + (2 : Int32))).toNatClampNeg ((p4 >>> ((8 : Int32) &&& 31)).toInt8.toInt32)).set (((p2 + (2 : Int32)) + (1 : Int32))).toNatClampNeg (p4.toInt8.toInt32)).map Value.int) (.int (0 : Int32)) := by
    rw [List.map_set]
    exact Arv.set Ar7 qa7 Sa7 Ma7 Ha7 Ga7 (own_fit id8) W8 _ rfl (by rw [List.length_map]; exact (by rw [List.length_set, List.length_set, List.length_set]; exact hl.2.2.2))
  have N8 := Fr.snoc X8 N6 g_a1
  have Z8 : n0 ≤ h8.size := Nat.le_trans Z6 (Keep.of_wr W8).1
  have K8 : Keep h0 h8 [a1] := K6.wr W8 (Or.inl (List.mem_of_getElem? (i := 0) rfl))
  refine own_st st8 ?_
  show own_Go p e below K (T8.setTop (mkF m 34 #[.val (.ref a1), .val (.int p2), .val (.int p3), .val (.int p4)] []))
  try clear X6 e6 st8
  obtain ⟨fs, hr, hrun, hended, hW, hsame⟩ := X8.leave (v := none) (fun _ => rfl)
  refine ⟨_, X8.returnOut hx Bd.returns (hb hby d2_34) hr, fin _ _ _ hrun hended ?_ ⟨⟨_, rfl⟩, hW, hsame.mono (by decide) (by decide)⟩⟩
  show Q2 Z a1 p2 p3 p4 xk xn xs h0 n0 _ T8.heap _
  rw [e8]
  exact ⟨rfl, N8, K8, V8⟩
theorem d3_0 : decode method_4_code 0 = .ok (.aload_n 0, 1) := by decide +kernel
theorem d3_1 : decode method_4_code 1 = .ok (.iload_n 1, 1) := by decide +kernel
theorem d3_2 : decode method_4_code 2 = .ok (.baload, 1) := by decide +kernel
theorem d3_3 : decode method_4_code 3 = .ok (.sipush 255, 3) := by decide +kernel
theorem d3_6 : decode method_4_code 6 = .ok (.iand, 1) := by decide +kernel
theorem d3_7 : decode method_4_code 7 = .ok (.bipush 8, 2) := by decide +kernel
theorem d3_9 : decode method_4_code 9 = .ok (.ishl, 1) := by decide +kernel
theorem d3_10 : decode method_4_code 10 = .ok (.aload_n 0, 1) := by decide +kernel
theorem d3_11 : decode method_4_code 11 = .ok (.iload_n 1, 1) := by decide +kernel
theorem d3_12 : decode method_4_code 12 = .ok (.iconst 1, 1) := by decide +kernel
theorem d3_13 : decode method_4_code 13 = .ok (.iadd, 1) := by decide +kernel
theorem d3_14 : decode method_4_code 14 = .ok (.baload, 1) := by decide +kernel
theorem d3_15 : decode method_4_code 15 = .ok (.sipush 255, 3) := by decide +kernel
theorem d3_18 : decode method_4_code 18 = .ok (.iand, 1) := by decide +kernel
theorem d3_19 : decode method_4_code 19 = .ok (.ior, 1) := by decide +kernel
theorem d3_20 : decode method_4_code 20 = .ok (.ireturn, 1) := by decide +kernel
theorem pn_3 : plainName "com/example/micrologue/micrologue/BytecodeWriteHeaderPinLaw" = true := by first | (simp [plainName, overriddenIn]; done) | decide +kernel
theorem ef_3 (m : MethodId) (x0 : Addr) (x1 : Int32) : entryFrame m #[(.ref x0), (.int x1)] 2 = mkF m 0 #[.val (.ref x0), .val (.int x1)] [] := by first | (simp [entryFrame, mkF, argsToLocals, Value.category]; done) | rfl
def Q3 (Z : State) (a1 : Addr) (p2 : Int32) (xk : ClassId) (xn : Int32) (xs : List Int32) (h0 : Heap) (n0 : Nat) (v : Option Value) (h : Heap) (L : List Loc) : Prop := ∃ (r : Int32), v = some (.int r) ∧ (r = own_r16 xs p2) ∧ Fr n0 L ∧ h = h0
set_option maxRecDepth 65536 in
set_option maxHeartbeats 40000000 in
theorem rm3 (l : Launch) (Z : State) (a0 : Array Value) (hw : ∀ d ∈ tables_1, d.before a0 Z = true) (ws : List Jvm.Cond) (a1 : Addr) (p2 : Int32) (xk : ClassId) (xn : Int32) (xs : List Int32) (h0 : Heap) (n0 : Nat) (Z0 : n0 ≤ h0.size) (P0 : Arv Z h0 a1 xk .byte xn (xs.map Value.int) (.int (0 : Int32))) (hi : ¬ p2 < 0 ∧ p2 < xn) (hi2 : ¬ (p2 + (1 : Int32)) < 0 ∧ (p2 + (1 : Int32)) < xn) :
    MetFree l (⟨"com/example/micrologue/micrologue/BytecodeWriteHeaderPinLaw", "read16", "([BI)I"⟩ : MethodName) (head1 (Jvm.Cond.code (⟨"com/example/micrologue/micrologue/BytecodeWriteHeaderPinLaw", "read16", "([BI)I"⟩ : MethodName) method_4_code 2 (some .int) :: ws) ({ frames := 0, cells := 0, slots := 0, locals := 0 } : Room)) (fun a U => a = #[(.ref a1), (.int p2)] ∧ Z.Warmed39 U.vm ∧ U.heap = h0) (fun _ _ _ _ _ => True) (fun _ U o U' => ∃ v L, o = .returned v ∧ Q3 Z a1 p2 xk xn xs h0 n0 v U'.heap L ∧ FrameEnd U o U' L ({ frames := 0, cells := 0, slots := 0, locals := 0 } : Room).cells ({ frames := 0, cells := 0, slots := 0, locals := 0 } : Room).slots) := by
  refine MetFree.of_bodySF (plainFor_of_name pn_3) hisR ?_
  intro p e s m args below meth c s₁ Bd hml0 hP hK
  obtain ⟨rfl, hZ, hh⟩ := hP
  have hx := Bd.exec
  have hby := Bd.bytes
  have hml : c.maxLocals = 2 := hml0
  have hown : s.vm.findClass "com/example/micrologue/micrologue/BytecodeWriteHeaderPinLaw" = some m.cls := findClass_of_methodNamed Bd.named
  have hnm := (name_of_methodNamed Bd.named Bd.method).1
  have X0 : Stand p l e ({ frames := 0, cells := 0, slots := 0, locals := 0 } : Room) s m #[(.ref a1), (.int p2)] below meth c s₁ [] 0 0 := Stand.of_body Bd
  have e0 : s₁.heap = h0 := by rw [← hh, Bd.state]; rfl
  have N0 := Fr.nil n0
  suffices G0 : ∀ K : State → Prop, (∀ (n : State) (v : Option Value) (L : List Loc), n.status = .running → Ended n below (.returned v) → Q3 Z a1 p2 xk xn xs h0 n0 v n.heap L → FrameEnd s (.returned v) n L ({ frames := 0, cells := 0, slots := 0, locals := 0 } : Room).cells ({ frames := 0, cells := 0, slots := 0, locals := 0 } : Room).slots → K n) → own_Go p e below K (s₁.setTop (mkF m 0 #[.val (.ref a1), .val (.int p2)] [])) by
    obtain ⟨t, st, o, a, b, v, L, e1, q, fe⟩ := G0 (fun n => ∃ o, n.status = .running ∧ Ended n below o ∧ ∃ v L, o = .returned v ∧ Q3 Z a1 p2 xk xn xs h0 n0 v n.heap L ∧ FrameEnd s o n L ({ frames := 0, cells := 0, slots := 0, locals := 0 } : Room).cells ({ frames := 0, cells := 0, slots := 0, locals := 0 } : Room).slots) (fun n v L a b q f => ⟨_, a, b, v, L, rfl, q, f⟩)
    exact ⟨t, o, castTop (ef_3 m a1 p2) st, a, b, v, L, e1, q, fe⟩
  intro K fin
  show own_Go p e below K (s₁.setTop (mkF m 0 #[.val (.ref a1), .val (.int p2)] []))
  refine own_st (fun t k => XS.aloadN X0.here hx rfl (hb hby d3_0) rfl rfl k) ?_
  show own_Go p e below K (s₁.setTop (mkF m 1 #[.val (.ref a1), .val (.int p2)] [(.ref a1)]))
  refine own_st (fun t k => XS.iloadN X0.here hx rfl (hb hby d3_1) rfl k) ?_
  show own_Go p e below K (s₁.setTop (mkF m 2 #[.val (.ref a1), .val (.int p2)] [(.int p2), (.ref a1)]))
  obtain ⟨cl1, Ar1, qa1, Sa1, Ma1, Ha1, Ga1⟩ := id P0
  have hin1 : ¬ (p2 < 0 ∨ cl1.slots.size ≤ (p2).toNatClampNeg) := inb_of Sa1 hi
  refine own_st (X0.baloadBytes hx (j := p2) (v := (.int (xs.getD (p2).toNatClampNeg 0))) (own_hat e0 Ar1.1) (State.isArrayOf_alike hZ.alike Ar1.2.1) Ar1.2.2 hin1 (Has.at Ha1 hin1 (own_atI xs _)) (g := (mkF m 2 #[.val (.ref a1), .val (.int p2)] [(.int p2), (.ref a1)])) rfl rfl (hb hby d3_2)) ?_
  show own_Go p e below K (s₁.setTop (mkF m 3 #[.val (.ref a1), .val (.int p2)] [(.int (xs.getD (p2).toNatClampNeg 0))]))
  refine own_st (fun t k => XS.sipush X0.here hx rfl (hb hby d3_3) k) ?_
  show own_Go p e below K (s₁.setTop (mkF m 6 #[.val (.ref a1), .val (.int p2)] [(.int (255 : Int32)), (.int (xs.getD (p2).toNatClampNeg 0))]))
  refine own_st (fun t k => XS.iand X0.here hx rfl (hb hby d3_6) rfl k) ?_
  show own_Go p e below K (s₁.setTop (mkF m 7 #[.val (.ref a1), .val (.int p2)] [(.int ((xs.getD (p2).toNatClampNeg 0) &&& (255 : Int32)))]))
  refine own_st (fun t k => XS.bipush X0.here hx rfl (hb hby d3_7) k) ?_
  show own_Go p e below K (s₁.setTop (mkF m 9 #[.val (.ref a1), .val (.int p2)] [(.int (8 : Int32)), (.int ((xs.getD (p2).toNatClampNeg 0) &&& (255 : Int32)))]))
  refine own_st (fun t k => XS.ishl X0.here hx rfl (hb hby d3_9) rfl k) ?_
  show own_Go p e below K (s₁.setTop (mkF m 10 #[.val (.ref a1), .val (.int p2)] [(.int (((xs.getD (p2).toNatClampNeg 0) &&& (255 : Int32)) <<< ((8 : Int32) &&& 31)))]))
  refine own_st (fun t k => XS.aloadN X0.here hx rfl (hb hby d3_10) rfl rfl k) ?_
  show own_Go p e below K (s₁.setTop (mkF m 11 #[.val (.ref a1), .val (.int p2)] [(.ref a1), (.int (((xs.getD (p2).toNatClampNeg 0) &&& (255 : Int32)) <<< ((8 : Int32) &&& 31)))]))
  refine own_st (fun t k => XS.iloadN X0.here hx rfl (hb hby d3_11) rfl k) ?_
  show own_Go p e below K (s₁.setTop (mkF m 12 #[.val (.ref a1), .val (.int p2)] [(.int p2), (.ref a1), (.int (((xs.getD (p2).toNatClampNeg 0) &&& (255 : Int32)) <<< ((8 : Int32) &&& 31)))]))
  refine own_st (fun t k => XS.iconst X0.here hx rfl (hb hby d3_12) k) ?_
  show own_Go p e below K (s₁.setTop (mkF m 13 #[.val (.ref a1), .val (.int p2)] [(.int (1 : Int32)), (.int p2), (.ref a1), (.int (((xs.getD (p2).toNatClampNeg 0) &&& (255 : Int32)) <<< ((8 : Int32) &&& 31)))]))
  refine own_st (fun t k => XS.iadd X0.here hx rfl (hb hby d3_13) rfl k) ?_
  show own_Go p e below K (s₁.setTop (mkF m 14 #[.val (.ref a1), .val (.int p2)] [(.int (p2 + (1 : Int32))), (.ref a1), (.int (((xs.getD (p2).toNatClampNeg 0) &&& (255 : Int32)) <<< ((8 : Int32) &&& 31)))]))
  obtain ⟨cl2, Ar2, qa2, Sa2, Ma2, Ha2, Ga2⟩ := id P0
  have hin2 : ¬ ((p2 + (1 : Int32)) < 0 ∨ cl2.slots.size ≤ ((p2 + (1 : Int32))).toNatClampNeg) := inb_of Sa2 hi2
  refine own_st (X0.baloadBytes hx (j := (p2 + (1 : Int32))) (v := (.int (xs.getD ((p2 + (1 : Int32))).toNatClampNeg 0))) (own_hat e0 Ar2.1) (State.isArrayOf_alike hZ.alike Ar2.2.1) Ar2.2.2 hin2 (Has.at Ha2 hin2 (own_atI xs _)) (g := (mkF m 14 #[.val (.ref a1), .val (.int p2)] [(.int (p2 + (1 : Int32))), (.ref a1), (.int (((xs.getD (p2).toNatClampNeg 0) &&& (255 : Int32)) <<< ((8 : Int32) &&& 31)))])) rfl rfl (hb hby d3_14)) ?_
  show own_Go p e below K (s₁.setTop (mkF m 15 #[.val (.ref a1), .val (.int p2)] [(.int (xs.getD ((p2 + (1 : Int32))).toNatClampNeg 0)), (.int (((xs.getD (p2).toNatClampNeg 0) &&& (255 : Int32)) <<< ((8 : Int32) &&& 31)))]))
  refine own_st (fun t k => XS.sipush X0.here hx rfl (hb hby d3_15) k) ?_
  show own_Go p e below K (s₁.setTop (mkF m 18 #[.val (.ref a1), .val (.int p2)] [(.int (255 : Int32)), (.int (xs.getD ((p2 + (1 : Int32))).toNatClampNeg 0)), (.int (((xs.getD (p2).toNatClampNeg 0) &&& (255 : Int32)) <<< ((8 : Int32) &&& 31)))]))
  refine own_st (fun t k => XS.iand X0.here hx rfl (hb hby d3_18) rfl k) ?_
  show own_Go p e below K (s₁.setTop (mkF m 19 #[.val (.ref a1), .val (.int p2)] [(.int ((xs.getD ((p2 + (1 : Int32))).toNatClampNeg 0) &&& (255 : Int32))), (.int (((xs.getD (p2).toNatClampNeg 0) &&& (255 : Int32)) <<< ((8 : Int32) &&& 31)))]))
  refine own_st (fun t k => XS.ior X0.here hx rfl (hb hby d3_19) rfl k) ?_
  show own_Go p e below K (s₁.setTop (mkF m 20 #[.val (.ref a1), .val (.int p2)] [(.int ((((xs.getD (p2).toNatClampNeg 0) &&& (255 : Int32)) <<< ((8 : Int32) &&& 31)) ||| ((xs.getD ((p2 + (1 : Int32))).toNatClampNeg 0) &&& (255 : Int32))))]))
  obtain ⟨fs, hr, hrun, hended, hW, hsame⟩ := X0.leave (v := some (.int ((((xs.getD (p2).toNatClampNeg 0) &&& (255 : Int32)) <<< ((8 : Int32) &&& 31)) ||| ((xs.getD ((p2 + (1 : Int32))).toNatClampNeg 0) &&& (255 : Int32))))) (fun h => by rw [Bd.returns] at h; cases h)
  refine ⟨_, retI X0 hx Bd.returns (hb hby d3_20) hr, fin _ _ _ hrun hended ?_ ⟨⟨_, rfl⟩, hW, hsame.mono (by decide) (by decide)⟩⟩
  show Q3 Z a1 p2 xk xn xs h0 n0 _ s₁.heap _
  rw [e0]
  exact ⟨_, rfl, rfl, N0, rfl⟩
theorem d4_0 : decode method_3_code 0 = .ok (.iload_n 1, 1) := by decide +kernel
theorem d4_1 : decode method_3_code 1 = .ok (.iload_n 2, 1) := by decide +kernel
theorem d4_2 : decode method_3_code 2 = .ok (.if_icmp .lt 12, 3) := by decide +kernel
theorem d4_5 : decode method_3_code 5 = .ok (.iload_n 1, 1) := by decide +kernel
theorem d4_6 : decode method_3_code 6 = .ok (.iload_n 2, 1) := by decide +kernel
theorem d4_7 : decode method_3_code 7 = .ok (.iconst 3, 1) := by decide +kernel
theorem d4_8 : decode method_3_code 8 = .ok (.iadd, 1) := by decide +kernel
theorem d4_9 : decode method_3_code 9 = .ok (.if_icmp .gt 5, 3) := by decide +kernel
theorem d4_12 : decode method_3_code 12 = .ok (.iconst 1, 1) := by decide +kernel
theorem d4_13 : decode method_3_code 13 = .ok (.ireturn, 1) := by decide +kernel
theorem d4_14 : decode method_3_code 14 = .ok (.aload_n 0, 1) := by decide +kernel
theorem d4_15 : decode method_3_code 15 = .ok (.iload_n 1, 1) := by decide +kernel
theorem d4_16 : decode method_3_code 16 = .ok (.baload, 1) := by decide +kernel
theorem d4_17 : decode method_3_code 17 = .ok (.lload_n 3, 1) := by decide +kernel
theorem d4_18 : decode method_3_code 18 = .ok (.iload_n 1, 1) := by decide +kernel
theorem d4_19 : decode method_3_code 19 = .ok (.invokestatic 7, 3) := by decide +kernel
theorem d4_22 : decode method_3_code 22 = .ok (.if_icmp .ne 7, 3) := by decide +kernel
theorem d4_25 : decode method_3_code 25 = .ok (.iconst 1, 1) := by decide +kernel
theorem d4_26 : decode method_3_code 26 = .ok (.goto 4, 3) := by decide +kernel
theorem d4_29 : decode method_3_code 29 = .ok (.iconst 0, 1) := by decide +kernel
theorem d4_30 : decode method_3_code 30 = .ok (.ireturn, 1) := by decide +kernel
theorem pn_4 : plainName "com/example/micrologue/micrologue/BytecodeWriteHeaderPinLaw" = true := by first | (simp [plainName, overriddenIn]; done) | decide +kernel
theorem pd_4_0 : parseMethodDescriptor "(JI)B" = some ⟨[.long, .int], some .byte⟩ := by decide +kernel
theorem ef_4 (m : MethodId) (x0 : Addr) (x1 : Int32) (x2 : Int32) (x3 : Int64) : entryFrame m #[(.ref x0), (.int x1), (.int x2), (.long x3)] 5 = mkF m 0 #[.val (.ref x0), .val (.int x1), .val (.int x2), .val (.long x3), .second] [] := by first | (simp [entryFrame, mkF, argsToLocals, Value.category]; done) | rfl
def Q4 (Z : State) (a1 : Addr) (p2 : Int32) (p3 : Int32) (q4 : Int64) (xk : ClassId) (xn : Int32) (xs : List Int32) (h0 : Heap) (n0 : Nat) (v : Option Value) (h : Heap) (L : List Loc) : Prop := ∃ (r : Int32), v = some (.int r) ∧ (own_B (own_kp xs p2 p3 q4) r) ∧ Fr n0 L ∧ h = h0
set_option maxRecDepth 65536 in
set_option maxHeartbeats 40000000 in
theorem rm4 (l : Launch) (Z : State) (a0 : Array Value) (hw : ∀ d ∈ tables_1, d.before a0 Z = true) (ws : List Jvm.Cond) (a1 : Addr) (p2 : Int32) (p3 : Int32) (q4 : Int64) (xk : ClassId) (xn : Int32) (xs : List Int32) (h0 : Heap) (n0 : Nat) (Z0 : n0 ≤ h0.size) (P0 : Arv Z h0 a1 xk .byte xn (xs.map Value.int) (.int (0 : Int32))) (hi : ¬ p2 < 0 ∧ p2 < xn) :
    MetFree l (⟨"com/example/micrologue/micrologue/BytecodeWriteHeaderPinLaw", "kept", "([BIIJ)Z"⟩ : MethodName) (head1 (Jvm.Cond.code (⟨"com/example/micrologue/micrologue/BytecodeWriteHeaderPinLaw", "kept", "([BIIJ)Z"⟩ : MethodName) method_3_code 5 (some .boolean) :: ws) ({ frames := 1, cells := 0, slots := 0, locals := 15 } : Room)) (fun a U => a = #[(.ref a1), (.int p2), (.int p3), (.long q4)] ∧ Z.Warmed39 U.vm ∧ U.heap = h0) (fun _ _ _ _ _ => True) (fun _ U o U' => ∃ v L, o = .returned v ∧ Q4 Z a1 p2 p3 q4 xk xn xs h0 n0 v U'.heap L ∧ FrameEnd U o U' L ({ frames := 1, cells := 0, slots := 0, locals := 15 } : Room).cells ({ frames := 1, cells := 0, slots := 0, locals := 15 } : Room).slots) := by
  refine MetFree.of_bodySF (plainFor_of_name pn_4) hisR ?_
  intro p e s m args below meth c s₁ Bd hml0 hP hK
  obtain ⟨rfl, hZ, hh⟩ := hP
  have hx := Bd.exec
  have hby := Bd.bytes
  have hml : c.maxLocals = 5 := hml0
  have hown : s.vm.findClass "com/example/micrologue/micrologue/BytecodeWriteHeaderPinLaw" = some m.cls := findClass_of_methodNamed Bd.named
  have hnm := (name_of_methodNamed Bd.named Bd.method).1
  have X0 : Stand p l e ({ frames := 1, cells := 0, slots := 0, locals := 15 } : Room) s m #[(.ref a1), (.int p2), (.int p3), (.long q4)] below meth c s₁ [] 0 0 := Stand.of_body Bd
  have e0 : s₁.heap = h0 := by rw [← hh, Bd.state]; rfl
  have N0 := Fr.nil n0
  suffices G0 : ∀ K : State → Prop, (∀ (n : State) (v : Option Value) (L : List Loc), n.status = .running → Ended n below (.returned v) → Q4 Z a1 p2 p3 q4 xk xn xs h0 n0 v n.heap L → FrameEnd s (.returned v) n L ({ frames := 1, cells := 0, slots := 0, locals := 15 } : Room).cells ({ frames := 1, cells := 0, slots := 0, locals := 15 } : Room).slots → K n) → own_Go p e below K (s₁.setTop (mkF m 0 #[.val (.ref a1), .val (.int p2), .val (.int p3), .val (.long q4), .second] [])) by
    obtain ⟨t, st, o, a, b, v, L, e1, q, fe⟩ := G0 (fun n => ∃ o, n.status = .running ∧ Ended n below o ∧ ∃ v L, o = .returned v ∧ Q4 Z a1 p2 p3 q4 xk xn xs h0 n0 v n.heap L ∧ FrameEnd s o n L ({ frames := 1, cells := 0, slots := 0, locals := 15 } : Room).cells ({ frames := 1, cells := 0, slots := 0, locals := 15 } : Room).slots) (fun n v L a b q f => ⟨_, a, b, v, L, rfl, q, f⟩)
    exact ⟨t, o, castTop (ef_4 m a1 p2 p3 q4) st, a, b, v, L, e1, q, fe⟩
  intro K fin
  show own_Go p e below K (s₁.setTop (mkF m 0 #[.val (.ref a1), .val (.int p2), .val (.int p3), .val (.long q4), .second] []))
  refine own_st (fun t k => XS.iloadN X0.here hx rfl (hb hby d4_0) rfl k) ?_
  show own_Go p e below K (s₁.setTop (mkF m 1 #[.val (.ref a1), .val (.int p2), .val (.int p3), .val (.long q4), .second] [(.int p2)]))
  refine own_st (fun t k => XS.iloadN X0.here hx rfl (hb hby d4_1) rfl k) ?_
  show own_Go p e below K (s₁.setTop (mkF m 2 #[.val (.ref a1), .val (.int p2), .val (.int p3), .val (.long q4), .second] [(.int p3), (.int p2)]))
  by_cases hc2 : p2 < p3
  · refine own_st (fun t k => XS.icmpYes X0.here hx rfl (pc0 := 2) (pc' := 14) rfl (hb hby d4_2) rfl (tlt hc2).1 (by decide) (by decide) k) ?_
    show own_Go p e below K (s₁.setTop (mkF m 14 #[.val (.ref a1), .val (.int p2), .val (.int p3), .val (.long q4), .second] []))
    refine own_st (fun t k => XS.aloadN X0.here hx rfl (hb hby d4_14) rfl rfl k) ?_
    show own_Go p e below K (s₁.setTop (mkF m 15 #[.val (.ref a1), .val (.int p2), .val (.int p3), .val (.long q4), .second] [(.ref a1)]))
    refine own_st (fun t k => XS.iloadN X0.here hx rfl (hb hby d4_15) rfl k) ?_
    show own_Go p e below K (s₁.setTop (mkF m 16 #[.val (.ref a1), .val (.int p2), .val (.int p3), .val (.long q4), .second] [(.int p2), (.ref a1)]))
    obtain ⟨cl1, Ar1, qa1, Sa1, Ma1, Ha1, Ga1⟩ := id P0
    have hin1 : ¬ (p2 < 0 ∨ cl1.slots.size ≤ (p2).toNatClampNeg) := inb_of Sa1 hi
    refine own_st (X0.baloadBytes hx (j := p2) (v := (.int (xs.getD (p2).toNatClampNeg 0))) (own_hat e0 Ar1.1) (State.isArrayOf_alike hZ.alike Ar1.2.1) Ar1.2.2 hin1 (Has.at Ha1 hin1 (own_atI xs _)) (g := (mkF m 16 #[.val (.ref a1), .val (.int p2), .val (.int p3), .val (.long q4), .second] [(.int p2), (.ref a1)])) rfl rfl (hb hby d4_16)) ?_
    show own_Go p e below K (s₁.setTop (mkF m 17 #[.val (.ref a1), .val (.int p2), .val (.int p3), .val (.long q4), .second] [(.int (xs.getD (p2).toNatClampNeg 0))]))
    refine own_st (fun t k => XS.lloadN X0.here hx rfl (hb hby d4_17) rfl k) ?_
    show own_Go p e below K (s₁.setTop (mkF m 18 #[.val (.ref a1), .val (.int p2), .val (.int p3), .val (.long q4), .second] [(.long q4), (.int (xs.getD (p2).toNatClampNeg 0))]))
    refine own_st (fun t k => XS.iloadN X0.here hx rfl (hb hby d4_18) rfl k) ?_
    show own_Go p e below K (s₁.setTop (mkF m 19 #[.val (.ref a1), .val (.int p2), .val (.int p3), .val (.long q4), .second] [(.int p2), (.long q4), (.int (xs.getD (p2).toNatClampNeg 0))]))
    obtain ⟨_, _, ⟨T2, L2, k2, n2⟩, -, X2, ⟨Lc2, hQ2, l2, y2, z2⟩, st2⟩ := Jvm.LawKit.callS X0 hx (y := (⟨"com/example/micrologue/micrologue/BytecodeWriteHeaderPinLaw", "before", "(JI)B"⟩ : MethodName)) hown (mvT hZ (hw _ (List.mem_of_getElem? (i := 3) rfl))) (mvT hZ (hw _ (List.mem_of_getElem? (i := 4) rfl))) (mvT hZ (hw _ (List.mem_of_getElem? (i := 5) rfl))) (mvT hZ (hw _ (List.mem_of_getElem? (i := 6) rfl))) (by decide) (backOf (W := 1) (rm1 l Z a0 hw [] q4 p2 h0 n0 Z0) hZ (hw _ (List.mem_of_getElem? (i := 6) rfl)) (hw _ (List.mem_of_getElem? (i := 5) rfl)) (by decide) (by decide)) (g := (mkF m 19 #[.val (.ref a1), .val (.int p2), .val (.int p3), .val (.long q4), .second] [(.int p2), (.long q4), (.int (xs.getD (p2).toNatClampNeg 0))])) rfl (by rw [hml]; rfl) (argsL := [(.long q4), (.int p2)]) (rest := [(.int (xs.getD (p2).toNatClampNeg 0))]) (lenOf pd_4_0 rfl) rfl (by show 2 * 0 + _ ≤ _; exact Nat.le_of_eq rfl) (hb hby d4_19) (fun _ _ => ⟨rfl, e0, (by decide : 0 + 0 ≤ _), (by decide : 0 + 0 ≤ _)⟩)
    dsimp only [Pt.U, Pt.locs, Pt.cells, Pt.slots] at X2 l2 y2 z2 st2 hQ2
    obtain ⟨r2, rfl, hr2, N2q, e2⟩ := hQ2
    have N2 : Fr n0 L2 := by rw [l2]; exact Fr.app N0 N2q
    clear l2
    have y2' : k2 = 0 := y2
    have z2' : n2 = 0 := z2
    clear y2 z2
    subst y2' z2'
    refine own_st st2 ?_
    show own_Go p e below K (T2.setTop (mkF m 22 #[.val (.ref a1), .val (.int p2), .val (.int p3), .val (.long q4), .second] [(.int r2), (.int (xs.getD (p2).toNatClampNeg 0))]))
    try clear st2 N2q
    by_cases hc22 : (xs.getD (p2).toNatClampNeg 0) = r2
    · refine own_st (fun t k => XS.icmpNo X2.here hx rfl (hb hby d4_22) rfl (teq hc22).2 k) ?_
      show own_Go p e below K (T2.setTop (mkF m 25 #[.val (.ref a1), .val (.int p2), .val (.int p3), .val (.long q4), .second] []))
      refine own_st (fun t k => XS.iconst X2.here hx rfl (hb hby d4_25) k) ?_
      show own_Go p e below K (T2.setTop (mkF m 26 #[.val (.ref a1), .val (.int p2), .val (.int p3), .val (.long q4), .second] [(.int (1 : Int32))]))
      refine own_st (fun t k => XS.goto X2.here hx rfl (pc0 := 26) (pc' := 30) rfl (hb hby d4_26) (by decide) (by decide) k) ?_
      show own_Go p e below K (T2.setTop (mkF m 30 #[.val (.ref a1), .val (.int p2), .val (.int p3), .val (.long q4), .second] [(.int (1 : Int32))]))
      obtain ⟨fs, hr, hrun, hended, hW, hsame⟩ := X2.leave (v := some (.int (nar .boolean (1 : Int32)))) (fun h => by rw [Bd.returns] at h; cases h)
      refine ⟨_, retN X2 hx (t := .boolean) Bd.returns (by simp) (hb hby d4_30) hr, fin _ _ _ hrun hended ?_ ⟨⟨_, rfl⟩, hW, hsame.mono (by decide) (by decide)⟩⟩
      show Q4 Z a1 p2 p3 q4 xk xn xs h0 n0 _ T2.heap _
      rw [e2]
      exact ⟨_, rfl, (own_B.yes (by decide) (Or.inr (hc22.trans hr2))), N2, rfl⟩
    refine own_st (fun t k => XS.icmpYes X2.here hx rfl (pc0 := 22) (pc' := 29) rfl (hb hby d4_22) rfl (feq hc22).2 (by decide) (by decide) k) ?_
    show own_Go p e below K (T2.setTop (mkF m 29 #[.val (.ref a1), .val (.int p2), .val (.int p3), .val (.long q4), .second] []))
    refine own_st (fun t k => XS.iconst X2.here hx rfl (hb hby d4_29) k) ?_
    show own_Go p e below K (T2.setTop (mkF m 30 #[.val (.ref a1), .val (.int p2), .val (.int p3), .val (.long q4), .second] [(.int (0 : Int32))]))
    obtain ⟨fs, hr, hrun, hended, hW, hsame⟩ := X2.leave (v := some (.int (nar .boolean (0 : Int32)))) (fun h => by rw [Bd.returns] at h; cases h)
    refine ⟨_, retN X2 hx (t := .boolean) Bd.returns (by simp) (hb hby d4_30) hr, fin _ _ _ hrun hended ?_ ⟨⟨_, rfl⟩, hW, hsame.mono (by decide) (by decide)⟩⟩
    show Q4 Z a1 p2 p3 q4 xk xn xs h0 n0 _ T2.heap _
    rw [e2]
    exact ⟨_, rfl, (own_B.no (by decide) fun z => z.elim (fun z => z.1 hc2) fun y => hc22 (y.trans hr2.symm)), N2, rfl⟩
  refine own_st (fun t k => XS.icmpNo X0.here hx rfl (hb hby d4_2) rfl (flt hc2).1 k) ?_
  show own_Go p e below K (s₁.setTop (mkF m 5 #[.val (.ref a1), .val (.int p2), .val (.int p3), .val (.long q4), .second] []))
  refine own_st (fun t k => XS.iloadN X0.here hx rfl (hb hby d4_5) rfl k) ?_
  show own_Go p e below K (s₁.setTop (mkF m 6 #[.val (.ref a1), .val (.int p2), .val (.int p3), .val (.long q4), .second] [(.int p2)]))
  refine own_st (fun t k => XS.iloadN X0.here hx rfl (hb hby d4_6) rfl k) ?_
  show own_Go p e below K (s₁.setTop (mkF m 7 #[.val (.ref a1), .val (.int p2), .val (.int p3), .val (.long q4), .second] [(.int p3), (.int p2)]))
  refine own_st (fun t k => XS.iconst X0.here hx rfl (hb hby d4_7) k) ?_
  show own_Go p e below K (s₁.setTop (mkF m 8 #[.val (.ref a1), .val (.int p2), .val (.int p3), .val (.long q4), .second] [(.int (3 : Int32)), (.int p3), (.int p2)]))
  refine own_st (fun t k => XS.iadd X0.here hx rfl (hb hby d4_8) rfl k) ?_
  show own_Go p e below K (s₁.setTop (mkF m 9 #[.val (.ref a1), .val (.int p2), .val (.int p3), .val (.long q4), .second] [(.int (p3 + (3 : Int32))), (.int p2)]))
  by_cases hc9 : (p3 + (3 : Int32)) < p2
  · refine own_st (fun t k => XS.icmpYes X0.here hx rfl (pc0 := 9) (pc' := 14) rfl (hb hby d4_9) rfl (tlt hc9).2.2.1 (by decide) (by decide) k) ?_
    show own_Go p e below K (s₁.setTop (mkF m 14 #[.val (.ref a1), .val (.int p2), .val (.int p3), .val (.long q4), .second] []))
    refine own_st (fun t k => XS.aloadN X0.here hx rfl (hb hby d4_14) rfl rfl k) ?_
    show own_Go p e below K (s₁.setTop (mkF m 15 #[.val (.ref a1), .val (.int p2), .val (.int p3), .val (.long q4), .second] [(.ref a1)]))
    refine own_st (fun t k => XS.iloadN X0.here hx rfl (hb hby d4_15) rfl k) ?_
    show own_Go p e below K (s₁.setTop (mkF m 16 #[.val (.ref a1), .val (.int p2), .val (.int p3), .val (.long q4), .second] [(.int p2), (.ref a1)]))
    obtain ⟨cl3, Ar3, qa3, Sa3, Ma3, Ha3, Ga3⟩ := id P0
    have hin3 : ¬ (p2 < 0 ∨ cl3.slots.size ≤ (p2).toNatClampNeg) := inb_of Sa3 hi
    refine own_st (X0.baloadBytes hx (j := p2) (v := (.int (xs.getD (p2).toNatClampNeg 0))) (own_hat e0 Ar3.1) (State.isArrayOf_alike hZ.alike Ar3.2.1) Ar3.2.2 hin3 (Has.at Ha3 hin3 (own_atI xs _)) (g := (mkF m 16 #[.val (.ref a1), .val (.int p2), .val (.int p3), .val (.long q4), .second] [(.int p2), (.ref a1)])) rfl rfl (hb hby d4_16)) ?_
    show own_Go p e below K (s₁.setTop (mkF m 17 #[.val (.ref a1), .val (.int p2), .val (.int p3), .val (.long q4), .second] [(.int (xs.getD (p2).toNatClampNeg 0))]))
    refine own_st (fun t k => XS.lloadN X0.here hx rfl (hb hby d4_17) rfl k) ?_
    show own_Go p e below K (s₁.setTop (mkF m 18 #[.val (.ref a1), .val (.int p2), .val (.int p3), .val (.long q4), .second] [(.long q4), (.int (xs.getD (p2).toNatClampNeg 0))]))
    refine own_st (fun t k => XS.iloadN X0.here hx rfl (hb hby d4_18) rfl k) ?_
    show own_Go p e below K (s₁.setTop (mkF m 19 #[.val (.ref a1), .val (.int p2), .val (.int p3), .val (.long q4), .second] [(.int p2), (.long q4), (.int (xs.getD (p2).toNatClampNeg 0))]))
    obtain ⟨_, _, ⟨T4, L4, k4, n4⟩, -, X4, ⟨Lc4, hQ4, l4, y4, z4⟩, st4⟩ := Jvm.LawKit.callS X0 hx (y := (⟨"com/example/micrologue/micrologue/BytecodeWriteHeaderPinLaw", "before", "(JI)B"⟩ : MethodName)) hown (mvT hZ (hw _ (List.mem_of_getElem? (i := 3) rfl))) (mvT hZ (hw _ (List.mem_of_getElem? (i := 4) rfl))) (mvT hZ (hw _ (List.mem_of_getElem? (i := 5) rfl))) (mvT hZ (hw _ (List.mem_of_getElem? (i := 6) rfl))) (by decide) (backOf (W := 1) (rm1 l Z a0 hw [] q4 p2 h0 n0 Z0) hZ (hw _ (List.mem_of_getElem? (i := 6) rfl)) (hw _ (List.mem_of_getElem? (i := 5) rfl)) (by decide) (by decide)) (g := (mkF m 19 #[.val (.ref a1), .val (.int p2), .val (.int p3), .val (.long q4), .second] [(.int p2), (.long q4), (.int (xs.getD (p2).toNatClampNeg 0))])) rfl (by rw [hml]; rfl) (argsL := [(.long q4), (.int p2)]) (rest := [(.int (xs.getD (p2).toNatClampNeg 0))]) (lenOf pd_4_0 rfl) rfl (by show 2 * 0 + _ ≤ _; exact Nat.le_of_eq rfl) (hb hby d4_19) (fun _ _ => ⟨rfl, e0, (by decide : 0 + 0 ≤ _), (by decide : 0 + 0 ≤ _)⟩)
    dsimp only [Pt.U, Pt.locs, Pt.cells, Pt.slots] at X4 l4 y4 z4 st4 hQ4
    obtain ⟨r4, rfl, hr4, N4q, e4⟩ := hQ4
    have N4 : Fr n0 L4 := by rw [l4]; exact Fr.app N0 N4q
    clear l4
    have y4' : k4 = 0 := y4
    have z4' : n4 = 0 := z4
    clear y4 z4
    subst y4' z4'
    refine own_st st4 ?_
    show own_Go p e below K (T4.setTop (mkF m 22 #[.val (.ref a1), .val (.int p2), .val (.int p3), .val (.long q4), .second] [(.int r4), (.int (xs.getD (p2).toNatClampNeg 0))]))
    try clear st4 N4q
    by_cases hc22 : (xs.getD (p2).toNatClampNeg 0) = r4
    · refine own_st (fun t k => XS.icmpNo X4.here hx rfl (hb hby d4_22) rfl (teq hc22).2 k) ?_
      show own_Go p e below K (T4.setTop (mkF m 25 #[.val (.ref a1), .val (.int p2), .val (.int p3), .val (.long q4), .second] []))
      refine own_st (fun t k => XS.iconst X4.here hx rfl (hb hby d4_25) k) ?_
      show own_Go p e below K (T4.setTop (mkF m 26 #[.val (.ref a1), .val (.int p2), .val (.int p3), .val (.long q4), .second] [(.int (1 : Int32))]))
      refine own_st (fun t k => XS.goto X4.here hx rfl (pc0 := 26) (pc' := 30) rfl (hb hby d4_26) (by decide) (by decide) k) ?_
      show own_Go p e below K (T4.setTop (mkF m 30 #[.val (.ref a1), .val (.int p2), .val (.int p3), .val (.long q4), .second] [(.int (1 : Int32))]))
      obtain ⟨fs, hr, hrun, hended, hW, hsame⟩ := X4.leave (v := some (.int (nar .boolean (1 : Int32)))) (fun h => by rw [Bd.returns] at h; cases h)
      refine ⟨_, retN X4 hx (t := .boolean) Bd.returns (by simp) (hb hby d4_30) hr, fin _ _ _ hrun hended ?_ ⟨⟨_, rfl⟩, hW, hsame.mono (by decide) (by decide)⟩⟩
      show Q4 Z a1 p2 p3 q4 xk xn xs h0 n0 _ T4.heap _
      rw [e4]
      exact ⟨_, rfl, (own_B.yes (by decide) (Or.inr (hc22.trans hr4))), N4, rfl⟩
    refine own_st (fun t k => XS.icmpYes X4.here hx rfl (pc0 := 22) (pc' := 29) rfl (hb hby d4_22) rfl (feq hc22).2 (by decide) (by decide) k) ?_
    show own_Go p e below K (T4.setTop (mkF m 29 #[.val (.ref a1), .val (.int p2), .val (.int p3), .val (.long q4), .second] []))
    refine own_st (fun t k => XS.iconst X4.here hx rfl (hb hby d4_29) k) ?_
    show own_Go p e below K (T4.setTop (mkF m 30 #[.val (.ref a1), .val (.int p2), .val (.int p3), .val (.long q4), .second] [(.int (0 : Int32))]))
    obtain ⟨fs, hr, hrun, hended, hW, hsame⟩ := X4.leave (v := some (.int (nar .boolean (0 : Int32)))) (fun h => by rw [Bd.returns] at h; cases h)
    refine ⟨_, retN X4 hx (t := .boolean) Bd.returns (by simp) (hb hby d4_30) hr, fin _ _ _ hrun hended ?_ ⟨⟨_, rfl⟩, hW, hsame.mono (by decide) (by decide)⟩⟩
    show Q4 Z a1 p2 p3 q4 xk xn xs h0 n0 _ T4.heap _
    rw [e4]
    exact ⟨_, rfl, (own_B.no (by decide) fun z => z.elim (fun z => z.2 hc9) fun y => hc22 (y.trans hr4.symm)), N4, rfl⟩
  refine own_st (fun t k => XS.icmpNo X0.here hx rfl (hb hby d4_9) rfl (flt hc9).2.2.1 k) ?_
  show own_Go p e below K (s₁.setTop (mkF m 12 #[.val (.ref a1), .val (.int p2), .val (.int p3), .val (.long q4), .second] []))
  refine own_st (fun t k => XS.iconst X0.here hx rfl (hb hby d4_12) k) ?_
  show own_Go p e below K (s₁.setTop (mkF m 13 #[.val (.ref a1), .val (.int p2), .val (.int p3), .val (.long q4), .second] [(.int (1 : Int32))]))
  obtain ⟨fs, hr, hrun, hended, hW, hsame⟩ := X0.leave (v := some (.int (nar .boolean (1 : Int32)))) (fun h => by rw [Bd.returns] at h; cases h)
  refine ⟨_, retN X0 hx (t := .boolean) Bd.returns (by simp) (hb hby d4_13) hr, fin _ _ _ hrun hended ?_ ⟨⟨_, rfl⟩, hW, hsame.mono (by decide) (by decide)⟩⟩
  show Q4 Z a1 p2 p3 q4 xk xn xs h0 n0 _ s₁.heap _
  rw [e0]
  exact ⟨_, rfl, (own_B.yes (by decide) (Or.inl ⟨hc2, hc9⟩)), N0, rfl⟩
theorem pn_0 : plainName "com/example/micrologue/micrologue/BytecodeWriteHeaderPinLaw" = true := by first | (simp [plainName, overriddenIn]; done) | decide +kernel
theorem pd_0_0 : parseMethodDescriptor "(JI)B" = some ⟨[.long, .int], some .byte⟩ := by decide +kernel
theorem pd_0_1 : parseMethodDescriptor "([BIII)V" = some ⟨[(.array .byte), .int, .int, .int], none⟩ := by decide +kernel
theorem pd_0_2 : parseMethodDescriptor "([BI)I" = some ⟨[(.array .byte), .int], some .int⟩ := by decide +kernel
theorem pd_0_3 : parseMethodDescriptor "([BIIJ)Z" = some ⟨[(.array .byte), .int, .int, .long], some .boolean⟩ := by decide +kernel
theorem ef_0 (m : MethodId) (x0 : Int32) (x1 : Int32) (x2 : Int32) (x3 : Int64) : entryFrame m #[(.int x0), (.int x1), (.int x2), (.long x3)] maxLocals = mkF m 0 #[.val (.int x0), .val (.int x1), .val (.int x2), .val (.long x3), .second, .unset, .unset, .unset, .unset, .unset] [] := by first | (simp [entryFrame, mkF, argsToLocals, Value.category, maxLocals]; done) | rfl
def Q0 (Z : State) (p1 : Int32) (p2 : Int32) (p3 : Int32) (q4 : Int64) (h0 : Heap) (n0 : Nat) (v : Option Value) (h : Heap) (L : List Loc) : Prop := v = some (.int 1) ∧ Fr n0 L
set_option maxRecDepth 65536 in
set_option maxHeartbeats 40000000 in
theorem rm0 (l : Launch) (Z : State) (a0 : Array Value) (hw : ∀ d ∈ tables_1, d.before a0 Z = true) (ws : List Jvm.Cond) (p1 : Int32) (p2 : Int32) (p3 : Int32) (q4 : Int64) (h0 : Heap) (n0 : Nat) (Z0 : n0 ≤ h0.size)  :
    MetFree l x (head1 (Jvm.Cond.code x code maxLocals ret :: ws) room_1) (fun a U => a = #[(.int p1), (.int p2), (.int p3), (.long q4)] ∧ Z.Warmed39 U.vm ∧ U.heap = h0) (fun _ _ _ _ _ => True) (fun _ U o U' => ∃ v L, o = .returned v ∧ Q0 Z p1 p2 p3 q4 h0 n0 v U'.heap L ∧ FrameEnd U o U' L 1 8) := by
  refine MetFree.of_bodySF (plainFor_of_name pn_0) hisR ?_
  intro p e s m args below meth c s₁ Bd hml0 hP hK
  obtain ⟨rfl, hZ, hh⟩ := hP
  have hx := Bd.exec
  have hby := Bd.bytes
  have hml : c.maxLocals = 10 := hml0
  have hown : s.vm.findClass "com/example/micrologue/micrologue/BytecodeWriteHeaderPinLaw" = some m.cls := findClass_of_methodNamed Bd.named
  have hnm := (name_of_methodNamed Bd.named Bd.method).1
  have X0 : Stand p l e room_1 s m #[(.int p1), (.int p2), (.int p3), (.long q4)] below meth c s₁ [] 0 0 := Stand.of_body Bd
  have e0 : s₁.heap = h0 := by rw [← hh, Bd.state]; rfl
  have N0 := Fr.nil n0
  suffices G0 : ∀ K : State → Prop, (∀ (n : State) (v : Option Value) (L : List Loc), n.status = .running → Ended n below (.returned v) → Q0 Z p1 p2 p3 q4 h0 n0 v n.heap L → FrameEnd s (.returned v) n L 1 8 → K n) → own_Go p e below K (s₁.setTop (mkF m 0 #[.val (.int p1), .val (.int p2), .val (.int p3), .val (.long q4), .second, .unset, .unset, .unset, .unset, .unset] [])) by
    obtain ⟨t, st, o, a, b, v, L, e1, q, fe⟩ := G0 (fun n => ∃ o, n.status = .running ∧ Ended n below o ∧ ∃ v L, o = .returned v ∧ Q0 Z p1 p2 p3 q4 h0 n0 v n.heap L ∧ FrameEnd s o n L 1 8) (fun n v L a b q f => ⟨_, a, b, v, L, rfl, q, f⟩)
    exact ⟨t, o, castTop (ef_0 m p1 p2 p3 q4) st, a, b, v, L, e1, q, fe⟩
  intro K fin
  show own_Go p e below K (s₁.setTop (mkF m 0 #[.val (.int p1), .val (.int p2), .val (.int p3), .val (.long q4), .second, .unset, .unset, .unset, .unset, .unset] []))
  refine own_st (fun t k => XS.iloadN X0.here hx rfl (hb hby at_0) rfl k) ?_
  show own_Go p e below K (s₁.setTop (mkF m 1 #[.val (.int p1), .val (.int p2), .val (.int p3), .val (.long q4), .second, .unset, .unset, .unset, .unset, .unset] [(.int p1)]))
  refine own_st (X0.ldcInt hx hown (mvT hZ (hw _ (List.mem_of_getElem? (i := 0) rfl))) (g := (mkF m 1 #[.val (.int p1), .val (.int p2), .val (.int p3), .val (.long q4), .second, .unset, .unset, .unset, .unset, .unset] [(.int p1)])) rfl (hb hby at_1)) ?_
  show own_Go p e below K (s₁.setTop (mkF m 3 #[.val (.int p1), .val (.int p2), .val (.int p3), .val (.long q4), .second, .unset, .unset, .unset, .unset, .unset] [(.int (2147483647 : Int32)), (.int p1)]))
  refine own_st (fun t k => XS.iand X0.here hx rfl (hb hby at_3) rfl k) ?_
  show own_Go p e below K (s₁.setTop (mkF m 4 #[.val (.int p1), .val (.int p2), .val (.int p3), .val (.long q4), .second, .unset, .unset, .unset, .unset, .unset] [(.int (p1 &&& (2147483647 : Int32)))]))
  refine own_st (fun t k => XS.iconst X0.here hx rfl (hb hby at_4) k) ?_
  show own_Go p e below K (s₁.setTop (mkF m 5 #[.val (.int p1), .val (.int p2), .val (.int p3), .val (.long q4), .second, .unset, .unset, .unset, .unset, .unset] [(.int (5 : Int32)), (.int (p1 &&& (2147483647 : Int32)))]))
  refine own_st (fun t k => iremM X0 hx rfl (hb hby at_5) rfl (by decide) k) ?_
  show own_Go p e below K (s₁.setTop (mkF m 6 #[.val (.int p1), .val (.int p2), .val (.int p3), .val (.long q4), .second, .unset, .unset, .unset, .unset, .unset] [(.int ((p1 &&& (2147483647 : Int32)) % (5 : Int32)))]))
  generalize hmm : ((p1 &&& (2147483647 : Int32)) % (5 : Int32)) = mm
  show own_Go p e below K (s₁.setTop (mkF m 6 #[.val (.int p1), .val (.int p2), .val (.int p3), .val (.long q4), .second, .unset, .unset, .unset, .unset, .unset] [(.int mm)]))
  have Bm := own_m5 hmm
  have Bn := own_inn Bm
  have Bl := own_inl Bm
  refine own_st (fun t k => XS.istore X0.here hx rfl (hb hby at_6) rfl (l' := #[.val (.int p1), .val (.int p2), .val (.int p3), .val (.long q4), .second, .val (.int mm), .unset, .unset, .unset, .unset]) rfl k) ?_
  show own_Go p e below K (s₁.setTop (mkF m 8 #[.val (.int p1), .val (.int p2), .val (.int p3), .val (.long q4), .second, .val (.int mm), .unset, .unset, .unset, .unset] []))
  refine own_st (fun t k => XS.iloadN X0.here hx rfl (hb hby at_8) rfl k) ?_
  show own_Go p e below K (s₁.setTop (mkF m 9 #[.val (.int p1), .val (.int p2), .val (.int p3), .val (.long q4), .second, .val (.int mm), .unset, .unset, .unset, .unset] [(.int p2)]))
  refine own_st (X0.ldcInt hx hown (mvT hZ (hw _ (List.mem_of_getElem? (i := 1) rfl))) (g := (mkF m 9 #[.val (.int p1), .val (.int p2), .val (.int p3), .val (.long q4), .second, .val (.int mm), .unset, .unset, .unset, .unset] [(.int p2)])) rfl (hb hby at_9)) ?_
  show own_Go p e below K (s₁.setTop (mkF m 11 #[.val (.int p1), .val (.int p2), .val (.int p3), .val (.long q4), .second, .val (.int mm), .unset, .unset, .unset, .unset] [(.int (65535 : Int32)), (.int p2)]))
  refine own_st (fun t k => XS.iand X0.here hx rfl (hb hby at_11) rfl k) ?_
  show own_Go p e below K (s₁.setTop (mkF m 12 #[.val (.int p1), .val (.int p2), .val (.int p3), .val (.long q4), .second, .val (.int mm), .unset, .unset, .unset, .unset] [(.int (p2 &&& (65535 : Int32)))]))
  generalize hua : (p2 &&& (65535 : Int32)) = ua
  show own_Go p e below K (s₁.setTop (mkF m 12 #[.val (.int p1), .val (.int p2), .val (.int p3), .val (.long q4), .second, .val (.int mm), .unset, .unset, .unset, .unset] [(.int ua)]))
  refine own_st (fun t k => XS.istore X0.here hx rfl (hb hby at_12) rfl (l' := #[.val (.int p1), .val (.int p2), .val (.int p3), .val (.long q4), .second, .val (.int mm), .val (.int ua), .unset, .unset, .unset]) rfl k) ?_
  show own_Go p e below K (s₁.setTop (mkF m 14 #[.val (.int p1), .val (.int p2), .val (.int p3), .val (.long q4), .second, .val (.int mm), .val (.int ua), .unset, .unset, .unset] []))
  refine own_st (fun t k => XS.iloadN X0.here hx rfl (hb hby at_14) rfl k) ?_
  show own_Go p e below K (s₁.setTop (mkF m 15 #[.val (.int p1), .val (.int p2), .val (.int p3), .val (.long q4), .second, .val (.int mm), .val (.int ua), .unset, .unset, .unset] [(.int p3)]))
  refine own_st (X0.ldcInt hx hown (mvT hZ (hw _ (List.mem_of_getElem? (i := 1) rfl))) (g := (mkF m 15 #[.val (.int p1), .val (.int p2), .val (.int p3), .val (.long q4), .second, .val (.int mm), .val (.int ua), .unset, .unset, .unset] [(.int p3)])) rfl (hb hby at_15)) ?_
  show own_Go p e below K (s₁.setTop (mkF m 17 #[.val (.int p1), .val (.int p2), .val (.int p3), .val (.long q4), .second, .val (.int mm), .val (.int ua), .unset, .unset, .unset] [(.int (65535 : Int32)), (.int p3)]))
  refine own_st (fun t k => XS.iand X0.here hx rfl (hb hby at_17) rfl k) ?_
  show own_Go p e below K (s₁.setTop (mkF m 18 #[.val (.int p1), .val (.int p2), .val (.int p3), .val (.long q4), .second, .val (.int mm), .val (.int ua), .unset, .unset, .unset] [(.int (p3 &&& (65535 : Int32)))]))
  generalize hul : (p3 &&& (65535 : Int32)) = ul
  show own_Go p e below K (s₁.setTop (mkF m 18 #[.val (.int p1), .val (.int p2), .val (.int p3), .val (.long q4), .second, .val (.int mm), .val (.int ua), .unset, .unset, .unset] [(.int ul)]))
  refine own_st (fun t k => XS.istore X0.here hx rfl (hb hby at_18) rfl (l' := #[.val (.int p1), .val (.int p2), .val (.int p3), .val (.long q4), .second, .val (.int mm), .val (.int ua), .val (.int ul), .unset, .unset]) rfl k) ?_
  show own_Go p e below K (s₁.setTop (mkF m 20 #[.val (.int p1), .val (.int p2), .val (.int p3), .val (.long q4), .second, .val (.int mm), .val (.int ua), .val (.int ul), .unset, .unset] []))
  refine own_st (fun t k => XS.bipush X0.here hx rfl (hb hby at_20) k) ?_
  show own_Go p e below K (s₁.setTop (mkF m 22 #[.val (.int p1), .val (.int p2), .val (.int p3), .val (.long q4), .second, .val (.int mm), .val (.int ua), .val (.int ul), .unset, .unset] [(.int (8 : Int32))]))
  obtain ⟨T1, h1, k1, X1, e1, E1, A1, st1⟩ := newP X0 hx hZ (hw _ (List.mem_of_getElem? (i := 2) rfl)) e0 (g := (mkF m 22 #[.val (.int p1), .val (.int p2), .val (.int p3), .val (.long q4), .second, .val (.int mm), .val (.int ua), .val (.int ul), .unset, .unset] [(.int (8 : Int32))])) rfl (hb hby at_22) rfl (by decide) (cap := 8) (by decide) (by decide) (by decide) (by decide)
  obtain ⟨b1, g1⟩ : ∃ z, z = h0.size := ⟨_, rfl⟩
  rw [← g1] at A1 st1
  have g_b1 : n0 ≤ b1 := Nat.le_trans Z0 (Nat.le_of_eq g1.symm)
  have V1 : Arv Z h1 b1 k1 .byte (8 : Int32) [(.int (0 : Int32)), (.int (0 : Int32)), (.int (0 : Int32)), (.int (0 : Int32)), (.int (0 : Int32)), (.int (0 : Int32)), (.int (0 : Int32)), (.int (0 : Int32))] (.int (0 : Int32)) := (Arv.new A1 (by decide)).pad (pad_rep [] (.int (0 : Int32)) 8)
  have Z1 : n0 ≤ h1.size := Nat.le_trans Z0 E1.1
  refine own_st st1 ?_
  show own_Go p e below K (T1.setTop (mkF m 24 #[.val (.int p1), .val (.int p2), .val (.int p3), .val (.long q4), .second, .val (.int mm), .val (.int ua), .val (.int ul), .unset, .unset] [(.ref b1)]))
  try clear st1
  refine own_st (fun t k => XS.astore X1.here hx rfl (hb hby at_24) rfl rfl (l' := #[.val (.int p1), .val (.int p2), .val (.int p3), .val (.long q4), .second, .val (.int mm), .val (.int ua), .val (.int ul), .val (.ref b1), .unset]) rfl k) ?_
  show own_Go p e below K (T1.setTop (mkF m 26 #[.val (.int p1), .val (.int p2), .val (.int p3), .val (.long q4), .second, .val (.int mm), .val (.int ua), .val (.int ul), .val (.ref b1), .unset] []))
  refine own_st (fun t k => XS.aload X1.here hx rfl (hb hby at_26) rfl rfl k) ?_
  show own_Go p e below K (T1.setTop (mkF m 28 #[.val (.int p1), .val (.int p2), .val (.int p3), .val (.long q4), .second, .val (.int mm), .val (.int ua), .val (.int ul), .val (.ref b1), .unset] [(.ref b1)]))
  refine own_st (fun t k => XS.iconst X1.here hx rfl (hb hby at_28) k) ?_
  show own_Go p e below K (T1.setTop (mkF m 29 #[.val (.int p1), .val (.int p2), .val (.int p3), .val (.long q4), .second, .val (.int mm), .val (.int ua), .val (.int ul), .val (.ref b1), .unset] [(.int (0 : Int32)), (.ref b1)]))
  refine own_st (fun t k => XS.lloadN X1.here hx rfl (hb hby at_29) rfl k) ?_
  show own_Go p e below K (T1.setTop (mkF m 30 #[.val (.int p1), .val (.int p2), .val (.int p3), .val (.long q4), .second, .val (.int mm), .val (.int ua), .val (.int ul), .val (.ref b1), .unset] [(.long q4), (.int (0 : Int32)), (.ref b1)]))
  refine own_st (fun t k => XS.iconst X1.here hx rfl (hb hby at_30) k) ?_
  show own_Go p e below K (T1.setTop (mkF m 31 #[.val (.int p1), .val (.int p2), .val (.int p3), .val (.long q4), .second, .val (.int mm), .val (.int ua), .val (.int ul), .val (.ref b1), .unset] [(.int (0 : Int32)), (.long q4), (.int (0 : Int32)), (.ref b1)]))
  obtain ⟨_, _, ⟨T2, L2, k2, n2⟩, -, X2, ⟨Lc2, hQ2, l2, y2, z2⟩, st2⟩ := Jvm.LawKit.callS X1 hx (y := (⟨"com/example/micrologue/micrologue/BytecodeWriteHeaderPinLaw", "before", "(JI)B"⟩ : MethodName)) hown (mvT hZ (hw _ (List.mem_of_getElem? (i := 3) rfl))) (mvT hZ (hw _ (List.mem_of_getElem? (i := 4) rfl))) (mvT hZ (hw _ (List.mem_of_getElem? (i := 5) rfl))) (mvT hZ (hw _ (List.mem_of_getElem? (i := 6) rfl))) (by decide) (backOf (W := 2) (rm1 l Z a0 hw [] q4 (0 : Int32) h1 n0 Z1) hZ (hw _ (List.mem_of_getElem? (i := 6) rfl)) (hw _ (List.mem_of_getElem? (i := 5) rfl)) (by decide) (by decide)) (g := (mkF m 31 #[.val (.int p1), .val (.int p2), .val (.int p3), .val (.long q4), .second, .val (.int mm), .val (.int ua), .val (.int ul), .val (.ref b1), .unset] [(.int (0 : Int32)), (.long q4), (.int (0 : Int32)), (.ref b1)])) rfl (by rw [hml]; rfl) (argsL := [(.long q4), (.int (0 : Int32))]) (rest := [(.int (0 : Int32)), (.ref b1)]) (lenOf pd_0_0 rfl) rfl (by show 2 * 0 + _ ≤ _; exact Nat.le_of_eq rfl) (hb hby at_31) (fun _ _ => ⟨rfl, e1, (by decide : 1 + 0 ≤ _), (by decide : 8 + 0 ≤ _)⟩)
  dsimp only [Pt.U, Pt.locs, Pt.cells, Pt.slots] at X2 l2 y2 z2 st2 hQ2
  obtain ⟨r2, rfl, hr2, N2q, e2⟩ := hQ2
  have N2 : Fr n0 L2 := by rw [l2]; exact Fr.app N0 N2q
  clear l2
  have y2' : k2 = 1 := y2
  have z2' : n2 = 8 := z2
  clear y2 z2
  subst y2' z2'
  refine own_st st2 ?_
  show own_Go p e below K (T2.setTop (mkF m 34 #[.val (.int p1), .val (.int p2), .val (.int p3), .val (.long q4), .second, .val (.int mm), .val (.int ua), .val (.int ul), .val (.ref b1), .unset] [(.int r2), (.int (0 : Int32)), (.ref b1)]))
  try clear X1 e1 st2 N2q
  obtain ⟨cl3, Ar3, qa3, Sa3, Ma3, Ha3, Ga3⟩ := id V1
  have hin3 : ¬ ((0 : Int32) < 0 ∨ cl3.slots.size ≤ ((0 : Int32)).toNatClampNeg) := inb_of Sa3 ⟨by decide, by decide⟩
  obtain ⟨T4, h4, X4, e4, W4, st4⟩ := stB X2 hx hZ e2 Ar3 (j := (0 : Int32)) hin3 (g := (mkF m 34 #[.val (.int p1), .val (.int p2), .val (.int p3), .val (.long q4), .second, .val (.int mm), .val (.int ua), .val (.int ul), .val (.ref b1), .unset] [(.int r2), (.int (0 : Int32)), (.ref b1)])) rfl rfl (hb hby at_34)
  have id4 : nar .byte r2 = r2 := (by rw [hr2]; exact own_nn _)
  rw [id4] at W4
  have V4 : Arv Z h4 b1 k1 .byte (8 : Int32) [(.int r2), (.int (0 : Int32)), (.int (0 : Int32)), (.int (0 : Int32)), (.int (0 : Int32)), (.int (0 : Int32)), (.int (0 : Int32)), (.int (0 : Int32))] (.int (0 : Int32)) := Arv.set Ar3 qa3 Sa3 Ma3 Ha3 Ga3 (own_fit id4) W4 0 rfl (Nat.le_of_ble_eq_true rfl)
  have N4 := Fr.snoc X4 N2 g_b1
  have Z4 : n0 ≤ h4.size := Nat.le_trans Z1 (Keep.of_wr W4).1
  refine own_st st4 ?_
  show own_Go p e below K (T4.setTop (mkF m 35 #[.val (.int p1), .val (.int p2), .val (.int p3), .val (.long q4), .second, .val (.int mm), .val (.int ua), .val (.int ul), .val (.ref b1), .unset] []))
  try clear X2 e2 st4
  refine own_st (fun t k => XS.aload X4.here hx rfl (hb hby at_35) rfl rfl k) ?_
  show own_Go p e below K (T4.setTop (mkF m 37 #[.val (.int p1), .val (.int p2), .val (.int p3), .val (.long q4), .second, .val (.int mm), .val (.int ua), .val (.int ul), .val (.ref b1), .unset] [(.ref b1)]))
  refine own_st (fun t k => XS.iconst X4.here hx rfl (hb hby at_37) k) ?_
  show own_Go p e below K (T4.setTop (mkF m 38 #[.val (.int p1), .val (.int p2), .val (.int p3), .val (.long q4), .second, .val (.int mm), .val (.int ua), .val (.int ul), .val (.ref b1), .unset] [(.int (1 : Int32)), (.ref b1)]))
  refine own_st (fun t k => XS.lloadN X4.here hx rfl (hb hby at_38) rfl k) ?_
  show own_Go p e below K (T4.setTop (mkF m 39 #[.val (.int p1), .val (.int p2), .val (.int p3), .val (.long q4), .second, .val (.int mm), .val (.int ua), .val (.int ul), .val (.ref b1), .unset] [(.long q4), (.int (1 : Int32)), (.ref b1)]))
  refine own_st (fun t k => XS.iconst X4.here hx rfl (hb hby at_39) k) ?_
  show own_Go p e below K (T4.setTop (mkF m 40 #[.val (.int p1), .val (.int p2), .val (.int p3), .val (.long q4), .second, .val (.int mm), .val (.int ua), .val (.int ul), .val (.ref b1), .unset] [(.int (1 : Int32)), (.long q4), (.int (1 : Int32)), (.ref b1)]))
  obtain ⟨_, _, ⟨T5, L5, k5, n5⟩, -, X5, ⟨Lc5, hQ5, l5, y5, z5⟩, st5⟩ := Jvm.LawKit.callS X4 hx (y := (⟨"com/example/micrologue/micrologue/BytecodeWriteHeaderPinLaw", "before", "(JI)B"⟩ : MethodName)) hown (mvT hZ (hw _ (List.mem_of_getElem? (i := 3) rfl))) (mvT hZ (hw _ (List.mem_of_getElem? (i := 4) rfl))) (mvT hZ (hw _ (List.mem_of_getElem? (i := 5) rfl))) (mvT hZ (hw _ (List.mem_of_getElem? (i := 6) rfl))) (by decide) (backOf (W := 2) (rm1 l Z a0 hw [] q4 (1 : Int32) h4 n0 Z4) hZ (hw _ (List.mem_of_getElem? (i := 6) rfl)) (hw _ (List.mem_of_getElem? (i := 5) rfl)) (by decide) (by decide)) (g := (mkF m 40 #[.val (.int p1), .val (.int p2), .val (.int p3), .val (.long q4), .second, .val (.int mm), .val (.int ua), .val (.int ul), .val (.ref b1), .unset] [(.int (1 : Int32)), (.long q4), (.int (1 : Int32)), (.ref b1)])) rfl (by rw [hml]; rfl) (argsL := [(.long q4), (.int (1 : Int32))]) (rest := [(.int (1 : Int32)), (.ref b1)]) (lenOf pd_0_0 rfl) rfl (by show 2 * 0 + _ ≤ _; exact Nat.le_of_eq rfl) (hb hby at_40) (fun _ _ => ⟨rfl, e4, (by decide : 1 + 0 ≤ _), (by decide : 8 + 0 ≤ _)⟩)
  dsimp only [Pt.U, Pt.locs, Pt.cells, Pt.slots] at X5 l5 y5 z5 st5 hQ5
  obtain ⟨r5, rfl, hr5, N5q, e5⟩ := hQ5
  have N5 : Fr n0 L5 := by rw [l5]; exact Fr.app N4 N5q
  clear l5
  have y5' : k5 = 1 := y5
  have z5' : n5 = 8 := z5
  clear y5 z5
  subst y5' z5'
  refine own_st st5 ?_
  show own_Go p e below K (T5.setTop (mkF m 43 #[.val (.int p1), .val (.int p2), .val (.int p3), .val (.long q4), .second, .val (.int mm), .val (.int ua), .val (.int ul), .val (.ref b1), .unset] [(.int r5), (.int (1 : Int32)), (.ref b1)]))
  try clear X4 e4 st5 N4 N5q
  obtain ⟨cl6, Ar6, qa6, Sa6, Ma6, Ha6, Ga6⟩ := id V4
  have hin6 : ¬ ((1 : Int32) < 0 ∨ cl6.slots.size ≤ ((1 : Int32)).toNatClampNeg) := inb_of Sa6 ⟨by decide, by decide⟩
  obtain ⟨T7, h7, X7, e7, W7, st7⟩ := stB X5 hx hZ e5 Ar6 (j := (1 : Int32)) hin6 (g := (mkF m 43 #[.val (.int p1), .val (.int p2), .val (.int p3), .val (.long q4), .second, .val (.int mm), .val (.int ua), .val (.int ul), .val (.ref b1), .unset] [(.int r5), (.int (1 : Int32)), (.ref b1)])) rfl rfl (hb hby at_43)
  have id7 : nar .byte r5 = r5 := (by rw [hr5]; exact own_nn _)
  rw [id7] at W7
  have V7 : Arv Z h7 b1 k1 .byte (8 : Int32) [(.int r2), (.int r5), (.int (0 : Int32)), (.int (0 : Int32)), (.int (0 : Int32)), (.int (0 : Int32)), (.int (0 : Int32)), (.int (0 : Int32))] (.int (0 : Int32)) := Arv.set Ar6 qa6 Sa6 Ma6 Ha6 Ga6 (own_fit id7) W7 1 rfl (Nat.le_of_ble_eq_true rfl)
  have N7 := Fr.snoc X7 N5 g_b1
  have Z7 : n0 ≤ h7.size := Nat.le_trans Z4 (Keep.of_wr W7).1
  refine own_st st7 ?_
  show own_Go p e below K (T7.setTop (mkF m 44 #[.val (.int p1), .val (.int p2), .val (.int p3), .val (.long q4), .second, .val (.int mm), .val (.int ua), .val (.int ul), .val (.ref b1), .unset] []))
  try clear X5 e5 st7
  refine own_st (fun t k => XS.aload X7.here hx rfl (hb hby at_44) rfl rfl k) ?_
  show own_Go p e below K (T7.setTop (mkF m 46 #[.val (.int p1), .val (.int p2), .val (.int p3), .val (.long q4), .second, .val (.int mm), .val (.int ua), .val (.int ul), .val (.ref b1), .unset] [(.ref b1)]))
  refine own_st (fun t k => XS.iconst X7.here hx rfl (hb hby at_46) k) ?_
  show own_Go p e below K (T7.setTop (mkF m 47 #[.val (.int p1), .val (.int p2), .val (.int p3), .val (.long q4), .second, .val (.int mm), .val (.int ua), .val (.int ul), .val (.ref b1), .unset] [(.int (2 : Int32)), (.ref b1)]))
  refine own_st (fun t k => XS.lloadN X7.here hx rfl (hb hby at_47) rfl k) ?_
  show own_Go p e below K (T7.setTop (mkF m 48 #[.val (.int p1), .val (.int p2), .val (.int p3), .val (.long q4), .second, .val (.int mm), .val (.int ua), .val (.int ul), .val (.ref b1), .unset] [(.long q4), (.int (2 : Int32)), (.ref b1)]))
  refine own_st (fun t k => XS.iconst X7.here hx rfl (hb hby at_48) k) ?_
  show own_Go p e below K (T7.setTop (mkF m 49 #[.val (.int p1), .val (.int p2), .val (.int p3), .val (.long q4), .second, .val (.int mm), .val (.int ua), .val (.int ul), .val (.ref b1), .unset] [(.int (2 : Int32)), (.long q4), (.int (2 : Int32)), (.ref b1)]))
  obtain ⟨_, _, ⟨T8, L8, k8, n8⟩, -, X8, ⟨Lc8, hQ8, l8, y8, z8⟩, st8⟩ := Jvm.LawKit.callS X7 hx (y := (⟨"com/example/micrologue/micrologue/BytecodeWriteHeaderPinLaw", "before", "(JI)B"⟩ : MethodName)) hown (mvT hZ (hw _ (List.mem_of_getElem? (i := 3) rfl))) (mvT hZ (hw _ (List.mem_of_getElem? (i := 4) rfl))) (mvT hZ (hw _ (List.mem_of_getElem? (i := 5) rfl))) (mvT hZ (hw _ (List.mem_of_getElem? (i := 6) rfl))) (by decide) (backOf (W := 2) (rm1 l Z a0 hw [] q4 (2 : Int32) h7 n0 Z7) hZ (hw _ (List.mem_of_getElem? (i := 6) rfl)) (hw _ (List.mem_of_getElem? (i := 5) rfl)) (by decide) (by decide)) (g := (mkF m 49 #[.val (.int p1), .val (.int p2), .val (.int p3), .val (.long q4), .second, .val (.int mm), .val (.int ua), .val (.int ul), .val (.ref b1), .unset] [(.int (2 : Int32)), (.long q4), (.int (2 : Int32)), (.ref b1)])) rfl (by rw [hml]; rfl) (argsL := [(.long q4), (.int (2 : Int32))]) (rest := [(.int (2 : Int32)), (.ref b1)]) (lenOf pd_0_0 rfl) rfl (by show 2 * 0 + _ ≤ _; exact Nat.le_of_eq rfl) (hb hby at_49) (fun _ _ => ⟨rfl, e7, (by decide : 1 + 0 ≤ _), (by decide : 8 + 0 ≤ _)⟩)
  dsimp only [Pt.U, Pt.locs, Pt.cells, Pt.slots] at X8 l8 y8 z8 st8 hQ8
  obtain ⟨r8, rfl, hr8, N8q, e8⟩ := hQ8
  have N8 : Fr n0 L8 := by rw [l8]; exact Fr.app N7 N8q
  clear l8
  have y8' : k8 = 1 := y8
  have z8' : n8 = 8 := z8
  clear y8 z8
  subst y8' z8'
  refine own_st st8 ?_
  show own_Go p e below K (T8.setTop (mkF m 52 #[.val (.int p1), .val (.int p2), .val (.int p3), .val (.long q4), .second, .val (.int mm), .val (.int ua), .val (.int ul), .val (.ref b1), .unset] [(.int r8), (.int (2 : Int32)), (.ref b1)]))
  try clear X7 e7 st8 N7 N8q
  obtain ⟨cl9, Ar9, qa9, Sa9, Ma9, Ha9, Ga9⟩ := id V7
  have hin9 : ¬ ((2 : Int32) < 0 ∨ cl9.slots.size ≤ ((2 : Int32)).toNatClampNeg) := inb_of Sa9 ⟨by decide, by decide⟩
  obtain ⟨T10, h10, X10, e10, W10, st10⟩ := stB X8 hx hZ e8 Ar9 (j := (2 : Int32)) hin9 (g := (mkF m 52 #[.val (.int p1), .val (.int p2), .val (.int p3), .val (.long q4), .second, .val (.int mm), .val (.int ua), .val (.int ul), .val (.ref b1), .unset] [(.int r8), (.int (2 : Int32)), (.ref b1)])) rfl rfl (hb hby at_52)
  have id10 : nar .byte r8 = r8 := (by rw [hr8]; exact own_nn _)
  rw [id10] at W10
  have V10 : Arv Z h10 b1 k1 .byte (8 : Int32) [(.int r2), (.int r5), (.int r8), (.int (0 : Int32)), (.int (0 : Int32)), (.int (0 : Int32)), (.int (0 : Int32)), (.int (0 : Int32))] (.int (0 : Int32)) := Arv.set Ar9 qa9 Sa9 Ma9 Ha9 Ga9 (own_fit id10) W10 2 rfl (Nat.le_of_ble_eq_true rfl)
  have N10 := Fr.snoc X10 N8 g_b1
  have Z10 : n0 ≤ h10.size := Nat.le_trans Z7 (Keep.of_wr W10).1
  refine own_st st10 ?_
  show own_Go p e below K (T10.setTop (mkF m 53 #[.val (.int p1), .val (.int p2), .val (.int p3), .val (.long q4), .second, .val (.int mm), .val (.int ua), .val (.int ul), .val (.ref b1), .unset] []))
  try clear X8 e8 st10
  refine own_st (fun t k => XS.aload X10.here hx rfl (hb hby at_53) rfl rfl k) ?_
  show own_Go p e below K (T10.setTop (mkF m 55 #[.val (.int p1), .val (.int p2), .val (.int p3), .val (.long q4), .second, .val (.int mm), .val (.int ua), .val (.int ul), .val (.ref b1), .unset] [(.ref b1)]))
  refine own_st (fun t k => XS.iconst X10.here hx rfl (hb hby at_55) k) ?_
  show own_Go p e below K (T10.setTop (mkF m 56 #[.val (.int p1), .val (.int p2), .val (.int p3), .val (.long q4), .second, .val (.int mm), .val (.int ua), .val (.int ul), .val (.ref b1), .unset] [(.int (3 : Int32)), (.ref b1)]))
  refine own_st (fun t k => XS.lloadN X10.here hx rfl (hb hby at_56) rfl k) ?_
  show own_Go p e below K (T10.setTop (mkF m 57 #[.val (.int p1), .val (.int p2), .val (.int p3), .val (.long q4), .second, .val (.int mm), .val (.int ua), .val (.int ul), .val (.ref b1), .unset] [(.long q4), (.int (3 : Int32)), (.ref b1)]))
  refine own_st (fun t k => XS.iconst X10.here hx rfl (hb hby at_57) k) ?_
  show own_Go p e below K (T10.setTop (mkF m 58 #[.val (.int p1), .val (.int p2), .val (.int p3), .val (.long q4), .second, .val (.int mm), .val (.int ua), .val (.int ul), .val (.ref b1), .unset] [(.int (3 : Int32)), (.long q4), (.int (3 : Int32)), (.ref b1)]))
  obtain ⟨_, _, ⟨T11, L11, k11, n11⟩, -, X11, ⟨Lc11, hQ11, l11, y11, z11⟩, st11⟩ := Jvm.LawKit.callS X10 hx (y := (⟨"com/example/micrologue/micrologue/BytecodeWriteHeaderPinLaw", "before", "(JI)B"⟩ : MethodName)) hown (mvT hZ (hw _ (List.mem_of_getElem? (i := 3) rfl))) (mvT hZ (hw _ (List.mem_of_getElem? (i := 4) rfl))) (mvT hZ (hw _ (List.mem_of_getElem? (i := 5) rfl))) (mvT hZ (hw _ (List.mem_of_getElem? (i := 6) rfl))) (by decide) (backOf (W := 2) (rm1 l Z a0 hw [] q4 (3 : Int32) h10 n0 Z10) hZ (hw _ (List.mem_of_getElem? (i := 6) rfl)) (hw _ (List.mem_of_getElem? (i := 5) rfl)) (by decide) (by decide)) (g := (mkF m 58 #[.val (.int p1), .val (.int p2), .val (.int p3), .val (.long q4), .second, .val (.int mm), .val (.int ua), .val (.int ul), .val (.ref b1), .unset] [(.int (3 : Int32)), (.long q4), (.int (3 : Int32)), (.ref b1)])) rfl (by rw [hml]; rfl) (argsL := [(.long q4), (.int (3 : Int32))]) (rest := [(.int (3 : Int32)), (.ref b1)]) (lenOf pd_0_0 rfl) rfl (by show 2 * 0 + _ ≤ _; exact Nat.le_of_eq rfl) (hb hby at_58) (fun _ _ => ⟨rfl, e10, (by decide : 1 + 0 ≤ _), (by decide : 8 + 0 ≤ _)⟩)
  dsimp only [Pt.U, Pt.locs, Pt.cells, Pt.slots] at X11 l11 y11 z11 st11 hQ11
  obtain ⟨r11, rfl, hr11, N11q, e11⟩ := hQ11
  have N11 : Fr n0 L11 := by rw [l11]; exact Fr.app N10 N11q
  clear l11
  have y11' : k11 = 1 := y11
  have z11' : n11 = 8 := z11
  clear y11 z11
  subst y11' z11'
  refine own_st st11 ?_
  show own_Go p e below K (T11.setTop (mkF m 61 #[.val (.int p1), .val (.int p2), .val (.int p3), .val (.long q4), .second, .val (.int mm), .val (.int ua), .val (.int ul), .val (.ref b1), .unset] [(.int r11), (.int (3 : Int32)), (.ref b1)]))
  try clear X10 e10 st11 N10 N11q
  obtain ⟨cl12, Ar12, qa12, Sa12, Ma12, Ha12, Ga12⟩ := id V10
  have hin12 : ¬ ((3 : Int32) < 0 ∨ cl12.slots.size ≤ ((3 : Int32)).toNatClampNeg) := inb_of Sa12 ⟨by decide, by decide⟩
  obtain ⟨T13, h13, X13, e13, W13, st13⟩ := stB X11 hx hZ e11 Ar12 (j := (3 : Int32)) hin12 (g := (mkF m 61 #[.val (.int p1), .val (.int p2), .val (.int p3), .val (.long q4), .second, .val (.int mm), .val (.int ua), .val (.int ul), .val (.ref b1), .unset] [(.int r11), (.int (3 : Int32)), (.ref b1)])) rfl rfl (hb hby at_61)
  have id13 : nar .byte r11 = r11 := (by rw [hr11]; exact own_nn _)
  rw [id13] at W13
  have V13 : Arv Z h13 b1 k1 .byte (8 : Int32) [(.int r2), (.int r5), (.int r8), (.int r11), (.int (0 : Int32)), (.int (0 : Int32)), (.int (0 : Int32)), (.int (0 : Int32))] (.int (0 : Int32)) := Arv.set Ar12 qa12 Sa12 Ma12 Ha12 Ga12 (own_fit id13) W13 3 rfl (Nat.le_of_ble_eq_true rfl)
  have N13 := Fr.snoc X13 N11 g_b1
  have Z13 : n0 ≤ h13.size := Nat.le_trans Z10 (Keep.of_wr W13).1
  refine own_st st13 ?_
  show own_Go p e below K (T13.setTop (mkF m 62 #[.val (.int p1), .val (.int p2), .val (.int p3), .val (.long q4), .second, .val (.int mm), .val (.int ua), .val (.int ul), .val (.ref b1), .unset] []))
  try clear X11 e11 st13
  refine own_st (fun t k => XS.aload X13.here hx rfl (hb hby at_62) rfl rfl k) ?_
  show own_Go p e below K (T13.setTop (mkF m 64 #[.val (.int p1), .val (.int p2), .val (.int p3), .val (.long q4), .second, .val (.int mm), .val (.int ua), .val (.int ul), .val (.ref b1), .unset] [(.ref b1)]))
  refine own_st (fun t k => XS.iconst X13.here hx rfl (hb hby at_64) k) ?_
  show own_Go p e below K (T13.setTop (mkF m 65 #[.val (.int p1), .val (.int p2), .val (.int p3), .val (.long q4), .second, .val (.int mm), .val (.int ua), .val (.int ul), .val (.ref b1), .unset] [(.int (4 : Int32)), (.ref b1)]))
  refine own_st (fun t k => XS.lloadN X13.here hx rfl (hb hby at_65) rfl k) ?_
  show own_Go p e below K (T13.setTop (mkF m 66 #[.val (.int p1), .val (.int p2), .val (.int p3), .val (.long q4), .second, .val (.int mm), .val (.int ua), .val (.int ul), .val (.ref b1), .unset] [(.long q4), (.int (4 : Int32)), (.ref b1)]))
  refine own_st (fun t k => XS.iconst X13.here hx rfl (hb hby at_66) k) ?_
  show own_Go p e below K (T13.setTop (mkF m 67 #[.val (.int p1), .val (.int p2), .val (.int p3), .val (.long q4), .second, .val (.int mm), .val (.int ua), .val (.int ul), .val (.ref b1), .unset] [(.int (4 : Int32)), (.long q4), (.int (4 : Int32)), (.ref b1)]))
  obtain ⟨_, _, ⟨T14, L14, k14, n14⟩, -, X14, ⟨Lc14, hQ14, l14, y14, z14⟩, st14⟩ := Jvm.LawKit.callS X13 hx (y := (⟨"com/example/micrologue/micrologue/BytecodeWriteHeaderPinLaw", "before", "(JI)B"⟩ : MethodName)) hown (mvT hZ (hw _ (List.mem_of_getElem? (i := 3) rfl))) (mvT hZ (hw _ (List.mem_of_getElem? (i := 4) rfl))) (mvT hZ (hw _ (List.mem_of_getElem? (i := 5) rfl))) (mvT hZ (hw _ (List.mem_of_getElem? (i := 6) rfl))) (by decide) (backOf (W := 2) (rm1 l Z a0 hw [] q4 (4 : Int32) h13 n0 Z13) hZ (hw _ (List.mem_of_getElem? (i := 6) rfl)) (hw _ (List.mem_of_getElem? (i := 5) rfl)) (by decide) (by decide)) (g := (mkF m 67 #[.val (.int p1), .val (.int p2), .val (.int p3), .val (.long q4), .second, .val (.int mm), .val (.int ua), .val (.int ul), .val (.ref b1), .unset] [(.int (4 : Int32)), (.long q4), (.int (4 : Int32)), (.ref b1)])) rfl (by rw [hml]; rfl) (argsL := [(.long q4), (.int (4 : Int32))]) (rest := [(.int (4 : Int32)), (.ref b1)]) (lenOf pd_0_0 rfl) rfl (by show 2 * 0 + _ ≤ _; exact Nat.le_of_eq rfl) (hb hby at_67) (fun _ _ => ⟨rfl, e13, (by decide : 1 + 0 ≤ _), (by decide : 8 + 0 ≤ _)⟩)
  dsimp only [Pt.U, Pt.locs, Pt.cells, Pt.slots] at X14 l14 y14 z14 st14 hQ14
  obtain ⟨r14, rfl, hr14, N14q, e14⟩ := hQ14
  have N14 : Fr n0 L14 := by rw [l14]; exact Fr.app N13 N14q
  clear l14
  have y14' : k14 = 1 := y14
  have z14' : n14 = 8 := z14
  clear y14 z14
  subst y14' z14'
  refine own_st st14 ?_
  show own_Go p e below K (T14.setTop (mkF m 70 #[.val (.int p1), .val (.int p2), .val (.int p3), .val (.long q4), .second, .val (.int mm), .val (.int ua), .val (.int ul), .val (.ref b1), .unset] [(.int r14), (.int (4 : Int32)), (.ref b1)]))
  try clear X13 e13 st14 N13 N14q
  obtain ⟨cl15, Ar15, qa15, Sa15, Ma15, Ha15, Ga15⟩ := id V13
  have hin15 : ¬ ((4 : Int32) < 0 ∨ cl15.slots.size ≤ ((4 : Int32)).toNatClampNeg) := inb_of Sa15 ⟨by decide, by decide⟩
  obtain ⟨T16, h16, X16, e16, W16, st16⟩ := stB X14 hx hZ e14 Ar15 (j := (4 : Int32)) hin15 (g := (mkF m 70 #[.val (.int p1), .val (.int p2), .val (.int p3), .val (.long q4), .second, .val (.int mm), .val (.int ua), .val (.int ul), .val (.ref b1), .unset] [(.int r14), (.int (4 : Int32)), (.ref b1)])) rfl rfl (hb hby at_70)
  have id16 : nar .byte r14 = r14 := (by rw [hr14]; exact own_nn _)
  rw [id16] at W16
  have V16 : Arv Z h16 b1 k1 .byte (8 : Int32) [(.int r2), (.int r5), (.int r8), (.int r11), (.int r14), (.int (0 : Int32)), (.int (0 : Int32)), (.int (0 : Int32))] (.int (0 : Int32)) := Arv.set Ar15 qa15 Sa15 Ma15 Ha15 Ga15 (own_fit id16) W16 4 rfl (Nat.le_of_ble_eq_true rfl)
  have N16 := Fr.snoc X16 N14 g_b1
  have Z16 : n0 ≤ h16.size := Nat.le_trans Z13 (Keep.of_wr W16).1
  refine own_st st16 ?_
  show own_Go p e below K (T16.setTop (mkF m 71 #[.val (.int p1), .val (.int p2), .val (.int p3), .val (.long q4), .second, .val (.int mm), .val (.int ua), .val (.int ul), .val (.ref b1), .unset] []))
  try clear X14 e14 st16
  refine own_st (fun t k => XS.aload X16.here hx rfl (hb hby at_71) rfl rfl k) ?_
  show own_Go p e below K (T16.setTop (mkF m 73 #[.val (.int p1), .val (.int p2), .val (.int p3), .val (.long q4), .second, .val (.int mm), .val (.int ua), .val (.int ul), .val (.ref b1), .unset] [(.ref b1)]))
  refine own_st (fun t k => XS.iconst X16.here hx rfl (hb hby at_73) k) ?_
  show own_Go p e below K (T16.setTop (mkF m 74 #[.val (.int p1), .val (.int p2), .val (.int p3), .val (.long q4), .second, .val (.int mm), .val (.int ua), .val (.int ul), .val (.ref b1), .unset] [(.int (5 : Int32)), (.ref b1)]))
  refine own_st (fun t k => XS.lloadN X16.here hx rfl (hb hby at_74) rfl k) ?_
  show own_Go p e below K (T16.setTop (mkF m 75 #[.val (.int p1), .val (.int p2), .val (.int p3), .val (.long q4), .second, .val (.int mm), .val (.int ua), .val (.int ul), .val (.ref b1), .unset] [(.long q4), (.int (5 : Int32)), (.ref b1)]))
  refine own_st (fun t k => XS.iconst X16.here hx rfl (hb hby at_75) k) ?_
  show own_Go p e below K (T16.setTop (mkF m 76 #[.val (.int p1), .val (.int p2), .val (.int p3), .val (.long q4), .second, .val (.int mm), .val (.int ua), .val (.int ul), .val (.ref b1), .unset] [(.int (5 : Int32)), (.long q4), (.int (5 : Int32)), (.ref b1)]))
  obtain ⟨_, _, ⟨T17, L17, k17, n17⟩, -, X17, ⟨Lc17, hQ17, l17, y17, z17⟩, st17⟩ := Jvm.LawKit.callS X16 hx (y := (⟨"com/example/micrologue/micrologue/BytecodeWriteHeaderPinLaw", "before", "(JI)B"⟩ : MethodName)) hown (mvT hZ (hw _ (List.mem_of_getElem? (i := 3) rfl))) (mvT hZ (hw _ (List.mem_of_getElem? (i := 4) rfl))) (mvT hZ (hw _ (List.mem_of_getElem? (i := 5) rfl))) (mvT hZ (hw _ (List.mem_of_getElem? (i := 6) rfl))) (by decide) (backOf (W := 2) (rm1 l Z a0 hw [] q4 (5 : Int32) h16 n0 Z16) hZ (hw _ (List.mem_of_getElem? (i := 6) rfl)) (hw _ (List.mem_of_getElem? (i := 5) rfl)) (by decide) (by decide)) (g := (mkF m 76 #[.val (.int p1), .val (.int p2), .val (.int p3), .val (.long q4), .second, .val (.int mm), .val (.int ua), .val (.int ul), .val (.ref b1), .unset] [(.int (5 : Int32)), (.long q4), (.int (5 : Int32)), (.ref b1)])) rfl (by rw [hml]; rfl) (argsL := [(.long q4), (.int (5 : Int32))]) (rest := [(.int (5 : Int32)), (.ref b1)]) (lenOf pd_0_0 rfl) rfl (by show 2 * 0 + _ ≤ _; exact Nat.le_of_eq rfl) (hb hby at_76) (fun _ _ => ⟨rfl, e16, (by decide : 1 + 0 ≤ _), (by decide : 8 + 0 ≤ _)⟩)
  dsimp only [Pt.U, Pt.locs, Pt.cells, Pt.slots] at X17 l17 y17 z17 st17 hQ17
  obtain ⟨r17, rfl, hr17, N17q, e17⟩ := hQ17
  have N17 : Fr n0 L17 := by rw [l17]; exact Fr.app N16 N17q
  clear l17
  have y17' : k17 = 1 := y17
  have z17' : n17 = 8 := z17
  clear y17 z17
  subst y17' z17'
  refine own_st st17 ?_
  show own_Go p e below K (T17.setTop (mkF m 79 #[.val (.int p1), .val (.int p2), .val (.int p3), .val (.long q4), .second, .val (.int mm), .val (.int ua), .val (.int ul), .val (.ref b1), .unset] [(.int r17), (.int (5 : Int32)), (.ref b1)]))
  try clear X16 e16 st17 N16 N17q
  obtain ⟨cl18, Ar18, qa18, Sa18, Ma18, Ha18, Ga18⟩ := id V16
  have hin18 : ¬ ((5 : Int32) < 0 ∨ cl18.slots.size ≤ ((5 : Int32)).toNatClampNeg) := inb_of Sa18 ⟨by decide, by decide⟩
  obtain ⟨T19, h19, X19, e19, W19, st19⟩ := stB X17 hx hZ e17 Ar18 (j := (5 : Int32)) hin18 (g := (mkF m 79 #[.val (.int p1), .val (.int p2), .val (.int p3), .val (.long q4), .second, .val (.int mm), .val (.int ua), .val (.int ul), .val (.ref b1), .unset] [(.int r17), (.int (5 : Int32)), (.ref b1)])) rfl rfl (hb hby at_79)
  have id19 : nar .byte r17 = r17 := (by rw [hr17]; exact own_nn _)
  rw [id19] at W19
  have V19 : Arv Z h19 b1 k1 .byte (8 : Int32) [(.int r2), (.int r5), (.int r8), (.int r11), (.int r14), (.int r17), (.int (0 : Int32)), (.int (0 : Int32))] (.int (0 : Int32)) := Arv.set Ar18 qa18 Sa18 Ma18 Ha18 Ga18 (own_fit id19) W19 5 rfl (Nat.le_of_ble_eq_true rfl)
  have N19 := Fr.snoc X19 N17 g_b1
  have Z19 : n0 ≤ h19.size := Nat.le_trans Z16 (Keep.of_wr W19).1
  refine own_st st19 ?_
  show own_Go p e below K (T19.setTop (mkF m 80 #[.val (.int p1), .val (.int p2), .val (.int p3), .val (.long q4), .second, .val (.int mm), .val (.int ua), .val (.int ul), .val (.ref b1), .unset] []))
  try clear X17 e17 st19
  refine own_st (fun t k => XS.aload X19.here hx rfl (hb hby at_80) rfl rfl k) ?_
  show own_Go p e below K (T19.setTop (mkF m 82 #[.val (.int p1), .val (.int p2), .val (.int p3), .val (.long q4), .second, .val (.int mm), .val (.int ua), .val (.int ul), .val (.ref b1), .unset] [(.ref b1)]))
  refine own_st (fun t k => XS.bipush X19.here hx rfl (hb hby at_82) k) ?_
  show own_Go p e below K (T19.setTop (mkF m 84 #[.val (.int p1), .val (.int p2), .val (.int p3), .val (.long q4), .second, .val (.int mm), .val (.int ua), .val (.int ul), .val (.ref b1), .unset] [(.int (6 : Int32)), (.ref b1)]))
  refine own_st (fun t k => XS.lloadN X19.here hx rfl (hb hby at_84) rfl k) ?_
  show own_Go p e below K (T19.setTop (mkF m 85 #[.val (.int p1), .val (.int p2), .val (.int p3), .val (.long q4), .second, .val (.int mm), .val (.int ua), .val (.int ul), .val (.ref b1), .unset] [(.long q4), (.int (6 : Int32)), (.ref b1)]))
  refine own_st (fun t k => XS.bipush X19.here hx rfl (hb hby at_85) k) ?_
  show own_Go p e below K (T19.setTop (mkF m 87 #[.val (.int p1), .val (.int p2), .val (.int p3), .val (.long q4), .second, .val (.int mm), .val (.int ua), .val (.int ul), .val (.ref b1), .unset] [(.int (6 : Int32)), (.long q4), (.int (6 : Int32)), (.ref b1)]))
  obtain ⟨_, _, ⟨T20, L20, k20, n20⟩, -, X20, ⟨Lc20, hQ20, l20, y20, z20⟩, st20⟩ := Jvm.LawKit.callS X19 hx (y := (⟨"com/example/micrologue/micrologue/BytecodeWriteHeaderPinLaw", "before", "(JI)B"⟩ : MethodName)) hown (mvT hZ (hw _ (List.mem_of_getElem? (i := 3) rfl))) (mvT hZ (hw _ (List.mem_of_getElem? (i := 4) rfl))) (mvT hZ (hw _ (List.mem_of_getElem? (i := 5) rfl))) (mvT hZ (hw _ (List.mem_of_getElem? (i := 6) rfl))) (by decide) (backOf (W := 2) (rm1 l Z a0 hw [] q4 (6 : Int32) h19 n0 Z19) hZ (hw _ (List.mem_of_getElem? (i := 6) rfl)) (hw _ (List.mem_of_getElem? (i := 5) rfl)) (by decide) (by decide)) (g := (mkF m 87 #[.val (.int p1), .val (.int p2), .val (.int p3), .val (.long q4), .second, .val (.int mm), .val (.int ua), .val (.int ul), .val (.ref b1), .unset] [(.int (6 : Int32)), (.long q4), (.int (6 : Int32)), (.ref b1)])) rfl (by rw [hml]; rfl) (argsL := [(.long q4), (.int (6 : Int32))]) (rest := [(.int (6 : Int32)), (.ref b1)]) (lenOf pd_0_0 rfl) rfl (by show 2 * 0 + _ ≤ _; exact Nat.le_of_eq rfl) (hb hby at_87) (fun _ _ => ⟨rfl, e19, (by decide : 1 + 0 ≤ _), (by decide : 8 + 0 ≤ _)⟩)
  dsimp only [Pt.U, Pt.locs, Pt.cells, Pt.slots] at X20 l20 y20 z20 st20 hQ20
  obtain ⟨r20, rfl, hr20, N20q, e20⟩ := hQ20
  have N20 : Fr n0 L20 := by rw [l20]; exact Fr.app N19 N20q
  clear l20
  have y20' : k20 = 1 := y20
  have z20' : n20 = 8 := z20
  clear y20 z20
  subst y20' z20'
  refine own_st st20 ?_
  show own_Go p e below K (T20.setTop (mkF m 90 #[.val (.int p1), .val (.int p2), .val (.int p3), .val (.long q4), .second, .val (.int mm), .val (.int ua), .val (.int ul), .val (.ref b1), .unset] [(.int r20), (.int (6 : Int32)), (.ref b1)]))
  try clear X19 e19 st20 N19 N20q
  obtain ⟨cl21, Ar21, qa21, Sa21, Ma21, Ha21, Ga21⟩ := id V19
  have hin21 : ¬ ((6 : Int32) < 0 ∨ cl21.slots.size ≤ ((6 : Int32)).toNatClampNeg) := inb_of Sa21 ⟨by decide, by decide⟩
  obtain ⟨T22, h22, X22, e22, W22, st22⟩ := stB X20 hx hZ e20 Ar21 (j := (6 : Int32)) hin21 (g := (mkF m 90 #[.val (.int p1), .val (.int p2), .val (.int p3), .val (.long q4), .second, .val (.int mm), .val (.int ua), .val (.int ul), .val (.ref b1), .unset] [(.int r20), (.int (6 : Int32)), (.ref b1)])) rfl rfl (hb hby at_90)
  have id22 : nar .byte r20 = r20 := (by rw [hr20]; exact own_nn _)
  rw [id22] at W22
  have V22 : Arv Z h22 b1 k1 .byte (8 : Int32) [(.int r2), (.int r5), (.int r8), (.int r11), (.int r14), (.int r17), (.int r20), (.int (0 : Int32))] (.int (0 : Int32)) := Arv.set Ar21 qa21 Sa21 Ma21 Ha21 Ga21 (own_fit id22) W22 6 rfl (Nat.le_of_ble_eq_true rfl)
  have N22 := Fr.snoc X22 N20 g_b1
  have Z22 : n0 ≤ h22.size := Nat.le_trans Z19 (Keep.of_wr W22).1
  refine own_st st22 ?_
  show own_Go p e below K (T22.setTop (mkF m 91 #[.val (.int p1), .val (.int p2), .val (.int p3), .val (.long q4), .second, .val (.int mm), .val (.int ua), .val (.int ul), .val (.ref b1), .unset] []))
  try clear X20 e20 st22
  refine own_st (fun t k => XS.aload X22.here hx rfl (hb hby at_91) rfl rfl k) ?_
  show own_Go p e below K (T22.setTop (mkF m 93 #[.val (.int p1), .val (.int p2), .val (.int p3), .val (.long q4), .second, .val (.int mm), .val (.int ua), .val (.int ul), .val (.ref b1), .unset] [(.ref b1)]))
  refine own_st (fun t k => XS.bipush X22.here hx rfl (hb hby at_93) k) ?_
  show own_Go p e below K (T22.setTop (mkF m 95 #[.val (.int p1), .val (.int p2), .val (.int p3), .val (.long q4), .second, .val (.int mm), .val (.int ua), .val (.int ul), .val (.ref b1), .unset] [(.int (7 : Int32)), (.ref b1)]))
  refine own_st (fun t k => XS.lloadN X22.here hx rfl (hb hby at_95) rfl k) ?_
  show own_Go p e below K (T22.setTop (mkF m 96 #[.val (.int p1), .val (.int p2), .val (.int p3), .val (.long q4), .second, .val (.int mm), .val (.int ua), .val (.int ul), .val (.ref b1), .unset] [(.long q4), (.int (7 : Int32)), (.ref b1)]))
  refine own_st (fun t k => XS.bipush X22.here hx rfl (hb hby at_96) k) ?_
  show own_Go p e below K (T22.setTop (mkF m 98 #[.val (.int p1), .val (.int p2), .val (.int p3), .val (.long q4), .second, .val (.int mm), .val (.int ua), .val (.int ul), .val (.ref b1), .unset] [(.int (7 : Int32)), (.long q4), (.int (7 : Int32)), (.ref b1)]))
  obtain ⟨_, _, ⟨T23, L23, k23, n23⟩, -, X23, ⟨Lc23, hQ23, l23, y23, z23⟩, st23⟩ := Jvm.LawKit.callS X22 hx (y := (⟨"com/example/micrologue/micrologue/BytecodeWriteHeaderPinLaw", "before", "(JI)B"⟩ : MethodName)) hown (mvT hZ (hw _ (List.mem_of_getElem? (i := 3) rfl))) (mvT hZ (hw _ (List.mem_of_getElem? (i := 4) rfl))) (mvT hZ (hw _ (List.mem_of_getElem? (i := 5) rfl))) (mvT hZ (hw _ (List.mem_of_getElem? (i := 6) rfl))) (by decide) (backOf (W := 2) (rm1 l Z a0 hw [] q4 (7 : Int32) h22 n0 Z22) hZ (hw _ (List.mem_of_getElem? (i := 6) rfl)) (hw _ (List.mem_of_getElem? (i := 5) rfl)) (by decide) (by decide)) (g := (mkF m 98 #[.val (.int p1), .val (.int p2), .val (.int p3), .val (.long q4), .second, .val (.int mm), .val (.int ua), .val (.int ul), .val (.ref b1), .unset] [(.int (7 : Int32)), (.long q4), (.int (7 : Int32)), (.ref b1)])) rfl (by rw [hml]; rfl) (argsL := [(.long q4), (.int (7 : Int32))]) (rest := [(.int (7 : Int32)), (.ref b1)]) (lenOf pd_0_0 rfl) rfl (by show 2 * 0 + _ ≤ _; exact Nat.le_of_eq rfl) (hb hby at_98) (fun _ _ => ⟨rfl, e22, (by decide : 1 + 0 ≤ _), (by decide : 8 + 0 ≤ _)⟩)
  dsimp only [Pt.U, Pt.locs, Pt.cells, Pt.slots] at X23 l23 y23 z23 st23 hQ23
  obtain ⟨r23, rfl, hr23, N23q, e23⟩ := hQ23
  have N23 : Fr n0 L23 := by rw [l23]; exact Fr.app N22 N23q
  clear l23
  have y23' : k23 = 1 := y23
  have z23' : n23 = 8 := z23
  clear y23 z23
  subst y23' z23'
  refine own_st st23 ?_
  show own_Go p e below K (T23.setTop (mkF m 101 #[.val (.int p1), .val (.int p2), .val (.int p3), .val (.long q4), .second, .val (.int mm), .val (.int ua), .val (.int ul), .val (.ref b1), .unset] [(.int r23), (.int (7 : Int32)), (.ref b1)]))
  try clear X22 e22 st23 N22 N23q
  obtain ⟨cl24, Ar24, qa24, Sa24, Ma24, Ha24, Ga24⟩ := id V22
  have hin24 : ¬ ((7 : Int32) < 0 ∨ cl24.slots.size ≤ ((7 : Int32)).toNatClampNeg) := inb_of Sa24 ⟨by decide, by decide⟩
  obtain ⟨T25, h25, X25, e25, W25, st25⟩ := stB X23 hx hZ e23 Ar24 (j := (7 : Int32)) hin24 (g := (mkF m 101 #[.val (.int p1), .val (.int p2), .val (.int p3), .val (.long q4), .second, .val (.int mm), .val (.int ua), .val (.int ul), .val (.ref b1), .unset] [(.int r23), (.int (7 : Int32)), (.ref b1)])) rfl rfl (hb hby at_101)
  have id25 : nar .byte r23 = r23 := (by rw [hr23]; exact own_nn _)
  rw [id25] at W25
  have V25 : Arv Z h25 b1 k1 .byte (8 : Int32) [(.int r2), (.int r5), (.int r8), (.int r11), (.int r14), (.int r17), (.int r20), (.int r23)] (.int (0 : Int32)) := Arv.set Ar24 qa24 Sa24 Ma24 Ha24 Ga24 (own_fit id25) W25 7 rfl (Nat.le_of_ble_eq_true rfl)
  have N25 := Fr.snoc X25 N23 g_b1
  have Z25 : n0 ≤ h25.size := Nat.le_trans Z22 (Keep.of_wr W25).1
  refine own_st st25 ?_
  show own_Go p e below K (T25.setTop (mkF m 102 #[.val (.int p1), .val (.int p2), .val (.int p3), .val (.long q4), .second, .val (.int mm), .val (.int ua), .val (.int ul), .val (.ref b1), .unset] []))
  try clear X23 e23 st25
  refine own_st (fun t k => XS.aload X25.here hx rfl (hb hby at_102) rfl rfl k) ?_
  show own_Go p e below K (T25.setTop (mkF m 104 #[.val (.int p1), .val (.int p2), .val (.int p3), .val (.long q4), .second, .val (.int mm), .val (.int ua), .val (.int ul), .val (.ref b1), .unset] [(.ref b1)]))
  refine own_st (fun t k => XS.iload X25.here hx rfl (hb hby at_104) rfl k) ?_
  show own_Go p e below K (T25.setTop (mkF m 106 #[.val (.int p1), .val (.int p2), .val (.int p3), .val (.long q4), .second, .val (.int mm), .val (.int ua), .val (.int ul), .val (.ref b1), .unset] [(.int mm), (.ref b1)]))
  refine own_st (fun t k => XS.iload X25.here hx rfl (hb hby at_106) rfl k) ?_
  show own_Go p e below K (T25.setTop (mkF m 108 #[.val (.int p1), .val (.int p2), .val (.int p3), .val (.long q4), .second, .val (.int mm), .val (.int ua), .val (.int ul), .val (.ref b1), .unset] [(.int ua), (.int mm), (.ref b1)]))
  refine own_st (fun t k => XS.iload X25.here hx rfl (hb hby at_108) rfl k) ?_
  show own_Go p e below K (T25.setTop (mkF m 110 #[.val (.int p1), .val (.int p2), .val (.int p3), .val (.long q4), .second, .val (.int mm), .val (.int ua), .val (.int ul), .val (.ref b1), .unset] [(.int ul), (.int ua), (.int mm), (.ref b1)]))
  obtain ⟨_, _, ⟨T26, L26, k26, n26⟩, -, X26, ⟨Lc26, hQ26, l26, y26, z26⟩, st26⟩ := Jvm.LawKit.callS X25 hx (y := (⟨"com/example/micrologue/micrologue/Bytecode", "writeHeader", "([BIII)V"⟩ : MethodName)) hown (mvT hZ (hw _ (List.mem_of_getElem? (i := 7) rfl))) (mvT hZ (hw _ (List.mem_of_getElem? (i := 8) rfl))) (mvT hZ (hw _ (List.mem_of_getElem? (i := 9) rfl))) (mvT hZ (hw _ (List.mem_of_getElem? (i := 10) rfl))) (by decide) (backOf (W := 0) (rm2 l Z a0 hw [] b1 mm ua ul (k1) ((8 : Int32)) ([r2, r5, r8, r11, r14, r17, r20, r23]) h25 n0 Z25 g_b1 V25 Bn Bl) hZ (hw _ (List.mem_of_getElem? (i := 10) rfl)) (hw _ (List.mem_of_getElem? (i := 9) rfl)) (by decide) (by decide)) (g := (mkF m 110 #[.val (.int p1), .val (.int p2), .val (.int p3), .val (.long q4), .second, .val (.int mm), .val (.int ua), .val (.int ul), .val (.ref b1), .unset] [(.int ul), (.int ua), (.int mm), (.ref b1)])) rfl (by rw [hml]; rfl) (argsL := [(.ref b1), (.int mm), (.int ua), (.int ul)]) (rest := []) (lenOf pd_0_1 rfl) rfl (by show 2 * 0 + _ ≤ _; exact Nat.le_of_eq rfl) (hb hby at_110) (fun _ _ => ⟨rfl, e25, (by decide : 1 + 0 ≤ _), (by decide : 8 + 0 ≤ _)⟩)
  dsimp only [Pt.U, Pt.locs, Pt.cells, Pt.slots] at X26 l26 y26 z26 st26 hQ26
  obtain ⟨rfl, N26q, Kq26, p26_0⟩ := hQ26
  have N26 : Fr n0 L26 := by rw [l26]; exact Fr.app N25 N26q
  clear l26
  have y26' : k26 = 1 := y26
  have z26' : n26 = 8 := z26
  clear y26 z26
  subst y26' z26'
  have Z26 : n0 ≤ T26.heap.size := Nat.le_trans Z25 Kq26.1
  refine own_st st26 ?_
  show own_Go p e below K (T26.setTop (mkF m 113 #[.val (.int p1), .val (.int p2), .val (.int p3), .val (.long q4), .second, .val (.int mm), .val (.int ua), .val (.int ul), .val (.ref b1), .unset] []))
  try clear X25 e25 st26 N25 N26q
  obtain ⟨ys, hys⟩ : ∃ z : List Int32, z = (own_wh [r2, r5, r8, r11, r14, r17, r20, r23] mm ua ul) := ⟨_, rfl⟩
  have V27 : Arv Z T26.heap b1 k1 .byte (8 : Int32) (ys.map Value.int) (.int (0 : Int32)) := by rw [hys]; exact p26_0
  refine own_st (fun t k => XS.aload X26.here hx rfl (hb hby at_113) rfl rfl k) ?_
  show own_Go p e below K (T26.setTop (mkF m 115 #[.val (.int p1), .val (.int p2), .val (.int p3), .val (.long q4), .second, .val (.int mm), .val (.int ua), .val (.int ul), .val (.ref b1), .unset] [(.ref b1)]))
  refine own_st (fun t k => XS.iload X26.here hx rfl (hb hby at_115) rfl k) ?_
  show own_Go p e below K (T26.setTop (mkF m 117 #[.val (.int p1), .val (.int p2), .val (.int p3), .val (.long q4), .second, .val (.int mm), .val (.int ua), .val (.int ul), .val (.ref b1), .unset] [(.int mm), (.ref b1)]))
  obtain ⟨_, _, ⟨T28, L28, k28, n28⟩, -, X28, ⟨Lc28, hQ28, l28, y28, z28⟩, st28⟩ := Jvm.LawKit.callS X26 hx (y := (⟨"com/example/micrologue/micrologue/BytecodeWriteHeaderPinLaw", "read16", "([BI)I"⟩ : MethodName)) hown (mvT hZ (hw _ (List.mem_of_getElem? (i := 11) rfl))) (mvT hZ (hw _ (List.mem_of_getElem? (i := 12) rfl))) (mvT hZ (hw _ (List.mem_of_getElem? (i := 5) rfl))) (mvT hZ (hw _ (List.mem_of_getElem? (i := 13) rfl))) (by decide) (backOf (W := 0) (rm3 l Z a0 hw [] b1 mm (k1) ((8 : Int32)) (ys) T26.heap n0 Z26 V27 Bn.1 Bn.2.1) hZ (hw _ (List.mem_of_getElem? (i := 13) rfl)) (hw _ (List.mem_of_getElem? (i := 5) rfl)) (by decide) (by decide)) (g := (mkF m 117 #[.val (.int p1), .val (.int p2), .val (.int p3), .val (.long q4), .second, .val (.int mm), .val (.int ua), .val (.int ul), .val (.ref b1), .unset] [(.int mm), (.ref b1)])) rfl (by rw [hml]; rfl) (argsL := [(.ref b1), (.int mm)]) (rest := []) (lenOf pd_0_2 rfl) rfl (by show 2 * 0 + _ ≤ _; exact Nat.le_of_eq rfl) (hb hby at_117) (fun _ _ => ⟨rfl, rfl, (by decide : 1 + 0 ≤ _), (by decide : 8 + 0 ≤ _)⟩)
  dsimp only [Pt.U, Pt.locs, Pt.cells, Pt.slots] at X28 l28 y28 z28 st28 hQ28
  obtain ⟨r28, rfl, hr28, N28q, e28⟩ := hQ28
  have N28 : Fr n0 L28 := by rw [l28]; exact Fr.app N26 N28q
  clear l28
  have y28' : k28 = 1 := y28
  have z28' : n28 = 8 := z28
  clear y28 z28
  subst y28' z28'
  refine own_st st28 ?_
  show own_Go p e below K (T28.setTop (mkF m 120 #[.val (.int p1), .val (.int p2), .val (.int p3), .val (.long q4), .second, .val (.int mm), .val (.int ua), .val (.int ul), .val (.ref b1), .unset] [(.int r28)]))
  try clear X26 st28 N26 N28q
  refine own_st (fun t k => XS.iload X28.here hx rfl (hb hby at_120) rfl k) ?_
  show own_Go p e below K (T28.setTop (mkF m 122 #[.val (.int p1), .val (.int p2), .val (.int p3), .val (.long q4), .second, .val (.int mm), .val (.int ua), .val (.int ul), .val (.ref b1), .unset] [(.int ua), (.int r28)]))
  refine own_st (fun t k => XS.icmpNo X28.here hx rfl (hb hby at_122) rfl (teq (by rw [hr28, hys]; exact (own_read Bm hua hul).1 : r28 = ua)).2 k) ?_
  show own_Go p e below K (T28.setTop (mkF m 125 #[.val (.int p1), .val (.int p2), .val (.int p3), .val (.long q4), .second, .val (.int mm), .val (.int ua), .val (.int ul), .val (.ref b1), .unset] []))
  refine own_st (fun t k => XS.aload X28.here hx rfl (hb hby at_125) rfl rfl k) ?_
  show own_Go p e below K (T28.setTop (mkF m 127 #[.val (.int p1), .val (.int p2), .val (.int p3), .val (.long q4), .second, .val (.int mm), .val (.int ua), .val (.int ul), .val (.ref b1), .unset] [(.ref b1)]))
  refine own_st (fun t k => XS.iload X28.here hx rfl (hb hby at_127) rfl k) ?_
  show own_Go p e below K (T28.setTop (mkF m 129 #[.val (.int p1), .val (.int p2), .val (.int p3), .val (.long q4), .second, .val (.int mm), .val (.int ua), .val (.int ul), .val (.ref b1), .unset] [(.int mm), (.ref b1)]))
  refine own_st (fun t k => XS.iconst X28.here hx rfl (hb hby at_129) k) ?_
  show own_Go p e below K (T28.setTop (mkF m 130 #[.val (.int p1), .val (.int p2), .val (.int p3), .val (.long q4), .second, .val (.int mm), .val (.int ua), .val (.int ul), .val (.ref b1), .unset] [(.int (2 : Int32)), (.int mm), (.ref b1)]))
  refine own_st (fun t k => XS.iadd X28.here hx rfl (hb hby at_130) rfl k) ?_
  show own_Go p e below K (T28.setTop (mkF m 131 #[.val (.int p1), .val (.int p2), .val (.int p3), .val (.long q4), .second, .val (.int mm), .val (.int ua), .val (.int ul), .val (.ref b1), .unset] [(.int (mm + (2 : Int32))), (.ref b1)]))
  obtain ⟨_, _, ⟨T29, L29, k29, n29⟩, -, X29, ⟨Lc29, hQ29, l29, y29, z29⟩, st29⟩ := Jvm.LawKit.callS X28 hx (y := (⟨"com/example/micrologue/micrologue/BytecodeWriteHeaderPinLaw", "read16", "([BI)I"⟩ : MethodName)) hown (mvT hZ (hw _ (List.mem_of_getElem? (i := 11) rfl))) (mvT hZ (hw _ (List.mem_of_getElem? (i := 12) rfl))) (mvT hZ (hw _ (List.mem_of_getElem? (i := 5) rfl))) (mvT hZ (hw _ (List.mem_of_getElem? (i := 13) rfl))) (by decide) (backOf (W := 0) (rm3 l Z a0 hw [] b1 (mm + (2 : Int32)) (k1) ((8 : Int32)) (ys) T26.heap n0 Z26 V27 Bn.2.2.1 Bn.2.2.2) hZ (hw _ (List.mem_of_getElem? (i := 13) rfl)) (hw _ (List.mem_of_getElem? (i := 5) rfl)) (by decide) (by decide)) (g := (mkF m 131 #[.val (.int p1), .val (.int p2), .val (.int p3), .val (.long q4), .second, .val (.int mm), .val (.int ua), .val (.int ul), .val (.ref b1), .unset] [(.int (mm + (2 : Int32))), (.ref b1)])) rfl (by rw [hml]; rfl) (argsL := [(.ref b1), (.int (mm + (2 : Int32)))]) (rest := []) (lenOf pd_0_2 rfl) rfl (by show 2 * 0 + _ ≤ _; exact Nat.le_of_eq rfl) (hb hby at_131) (fun _ _ => ⟨rfl, e28, (by decide : 1 + 0 ≤ _), (by decide : 8 + 0 ≤ _)⟩)
  dsimp only [Pt.U, Pt.locs, Pt.cells, Pt.slots] at X29 l29 y29 z29 st29 hQ29
  obtain ⟨r29, rfl, hr29, N29q, e29⟩ := hQ29
  have N29 : Fr n0 L29 := by rw [l29]; exact Fr.app N28 N29q
  clear l29
  have y29' : k29 = 1 := y29
  have z29' : n29 = 8 := z29
  clear y29 z29
  subst y29' z29'
  refine own_st st29 ?_
  show own_Go p e below K (T29.setTop (mkF m 134 #[.val (.int p1), .val (.int p2), .val (.int p3), .val (.long q4), .second, .val (.int mm), .val (.int ua), .val (.int ul), .val (.ref b1), .unset] [(.int r29)]))
  try clear X28 e28 st29 N28 N29q
  refine own_st (fun t k => XS.iload X29.here hx rfl (hb hby at_134) rfl k) ?_
  show own_Go p e below K (T29.setTop (mkF m 136 #[.val (.int p1), .val (.int p2), .val (.int p3), .val (.long q4), .second, .val (.int mm), .val (.int ua), .val (.int ul), .val (.ref b1), .unset] [(.int ul), (.int r29)]))
  refine own_st (fun t k => XS.icmpNo X29.here hx rfl (hb hby at_136) rfl (teq (by rw [hr29, hys]; exact (own_read Bm hua hul).2 : r29 = ul)).2 k) ?_
  show own_Go p e below K (T29.setTop (mkF m 139 #[.val (.int p1), .val (.int p2), .val (.int p3), .val (.long q4), .second, .val (.int mm), .val (.int ua), .val (.int ul), .val (.ref b1), .unset] []))
  refine own_st (fun t k => XS.iconst X29.here hx rfl (hb hby at_139) k) ?_
  show own_Go p e below K (T29.setTop (mkF m 140 #[.val (.int p1), .val (.int p2), .val (.int p3), .val (.long q4), .second, .val (.int mm), .val (.int ua), .val (.int ul), .val (.ref b1), .unset] [(.int (1 : Int32))]))
  refine own_st (fun t k => XS.goto X29.here hx rfl (pc0 := 140) (pc' := 144) rfl (hb hby at_140) (by decide) (by decide) k) ?_
  show own_Go p e below K (T29.setTop (mkF m 144 #[.val (.int p1), .val (.int p2), .val (.int p3), .val (.long q4), .second, .val (.int mm), .val (.int ua), .val (.int ul), .val (.ref b1), .unset] [(.int (1 : Int32))]))
  refine own_st (fun t k => XS.istore X29.here hx rfl (hb hby at_144) rfl (l' := #[.val (.int p1), .val (.int p2), .val (.int p3), .val (.long q4), .second, .val (.int mm), .val (.int ua), .val (.int ul), .val (.ref b1), .val (.int (1 : Int32))]) rfl k) ?_
  show own_Go p e below K (T29.setTop (mkF m 146 #[.val (.int p1), .val (.int p2), .val (.int p3), .val (.long q4), .second, .val (.int mm), .val (.int ua), .val (.int ul), .val (.ref b1), .val (.int (1 : Int32))] []))
  refine own_st (fun t k => XS.iload X29.here hx rfl (hb hby at_146) rfl k) ?_
  show own_Go p e below K (T29.setTop (mkF m 148 #[.val (.int p1), .val (.int p2), .val (.int p3), .val (.long q4), .second, .val (.int mm), .val (.int ua), .val (.int ul), .val (.ref b1), .val (.int (1 : Int32))] [(.int (1 : Int32))]))
  refine own_st (fun t k => XS.ifNo X29.here hx rfl (hb hby at_148) rfl ((if0 _ _).trans (feq (by decide : ¬ ((1 : Int32) = (0 : Int32)))).1) k) ?_
  show own_Go p e below K (T29.setTop (mkF m 151 #[.val (.int p1), .val (.int p2), .val (.int p3), .val (.long q4), .second, .val (.int mm), .val (.int ua), .val (.int ul), .val (.ref b1), .val (.int (1 : Int32))] []))
  refine own_st (fun t k => XS.aload X29.here hx rfl (hb hby at_151) rfl rfl k) ?_
  show own_Go p e below K (T29.setTop (mkF m 153 #[.val (.int p1), .val (.int p2), .val (.int p3), .val (.long q4), .second, .val (.int mm), .val (.int ua), .val (.int ul), .val (.ref b1), .val (.int (1 : Int32))] [(.ref b1)]))
  refine own_st (fun t k => XS.iconst X29.here hx rfl (hb hby at_153) k) ?_
  show own_Go p e below K (T29.setTop (mkF m 154 #[.val (.int p1), .val (.int p2), .val (.int p3), .val (.long q4), .second, .val (.int mm), .val (.int ua), .val (.int ul), .val (.ref b1), .val (.int (1 : Int32))] [(.int (0 : Int32)), (.ref b1)]))
  refine own_st (fun t k => XS.iload X29.here hx rfl (hb hby at_154) rfl k) ?_
  show own_Go p e below K (T29.setTop (mkF m 156 #[.val (.int p1), .val (.int p2), .val (.int p3), .val (.long q4), .second, .val (.int mm), .val (.int ua), .val (.int ul), .val (.ref b1), .val (.int (1 : Int32))] [(.int mm), (.int (0 : Int32)), (.ref b1)]))
  refine own_st (fun t k => XS.lloadN X29.here hx rfl (hb hby at_156) rfl k) ?_
  show own_Go p e below K (T29.setTop (mkF m 157 #[.val (.int p1), .val (.int p2), .val (.int p3), .val (.long q4), .second, .val (.int mm), .val (.int ua), .val (.int ul), .val (.ref b1), .val (.int (1 : Int32))] [(.long q4), (.int mm), (.int (0 : Int32)), (.ref b1)]))
  obtain ⟨_, _, ⟨T30, L30, k30, n30⟩, -, X30, ⟨Lc30, hQ30, l30, y30, z30⟩, st30⟩ := Jvm.LawKit.callS X29 hx (y := (⟨"com/example/micrologue/micrologue/BytecodeWriteHeaderPinLaw", "kept", "([BIIJ)Z"⟩ : MethodName)) hown (mvT hZ (hw _ (List.mem_of_getElem? (i := 14) rfl))) (mvT hZ (hw _ (List.mem_of_getElem? (i := 15) rfl))) (mvT hZ (hw _ (List.mem_of_getElem? (i := 5) rfl))) (mvT hZ (hw _ (List.mem_of_getElem? (i := 16) rfl))) (by decide) (backOf (W := 0) (rm4 l Z a0 hw [] b1 (0 : Int32) mm q4 (k1) ((8 : Int32)) (ys) T26.heap n0 Z26 V27 (by decide)) hZ (hw _ (List.mem_of_getElem? (i := 16) rfl)) (hw _ (List.mem_of_getElem? (i := 5) rfl)) (by decide) (by decide)) (g := (mkF m 157 #[.val (.int p1), .val (.int p2), .val (.int p3), .val (.long q4), .second, .val (.int mm), .val (.int ua), .val (.int ul), .val (.ref b1), .val (.int (1 : Int32))] [(.long q4), (.int mm), (.int (0 : Int32)), (.ref b1)])) rfl (by rw [hml]; rfl) (argsL := [(.ref b1), (.int (0 : Int32)), (.int mm), (.long q4)]) (rest := []) (lenOf pd_0_3 rfl) rfl (by show 2 * 0 + _ ≤ _; exact Nat.le_of_eq rfl) (hb hby at_157) (fun _ _ => ⟨rfl, e29, (by decide : 1 + 0 ≤ _), (by decide : 8 + 0 ≤ _)⟩)
  dsimp only [Pt.U, Pt.locs, Pt.cells, Pt.slots] at X30 l30 y30 z30 st30 hQ30
  obtain ⟨r30, rfl, hr30, N30q, e30⟩ := hQ30
  have N30 : Fr n0 L30 := by rw [l30]; exact Fr.app N29 N30q
  clear l30
  have y30' : k30 = 1 := y30
  have z30' : n30 = 8 := z30
  clear y30 z30
  subst y30' z30'
  refine own_st st30 ?_
  show own_Go p e below K (T30.setTop (mkF m 160 #[.val (.int p1), .val (.int p2), .val (.int p3), .val (.long q4), .second, .val (.int mm), .val (.int ua), .val (.int ul), .val (.ref b1), .val (.int (1 : Int32))] [(.int r30)]))
  try clear X29 e29 st30 N29 N30q
  refine own_st (fun t k => XS.ifNo X30.here hx rfl (hb hby at_160) rfl ((if0 _ _).trans (feq (own_B.ne0 hr30 (by rw [hys]; exact own_k0 Bm hr2) : ¬ (r30 = (0 : Int32)))).1) k) ?_
  show own_Go p e below K (T30.setTop (mkF m 163 #[.val (.int p1), .val (.int p2), .val (.int p3), .val (.long q4), .second, .val (.int mm), .val (.int ua), .val (.int ul), .val (.ref b1), .val (.int (1 : Int32))] []))
  refine own_st (fun t k => XS.iconst X30.here hx rfl (hb hby at_163) k) ?_
  show own_Go p e below K (T30.setTop (mkF m 164 #[.val (.int p1), .val (.int p2), .val (.int p3), .val (.long q4), .second, .val (.int mm), .val (.int ua), .val (.int ul), .val (.ref b1), .val (.int (1 : Int32))] [(.int (1 : Int32))]))
  refine own_st (fun t k => XS.goto X30.here hx rfl (pc0 := 164) (pc' := 168) rfl (hb hby at_164) (by decide) (by decide) k) ?_
  show own_Go p e below K (T30.setTop (mkF m 168 #[.val (.int p1), .val (.int p2), .val (.int p3), .val (.long q4), .second, .val (.int mm), .val (.int ua), .val (.int ul), .val (.ref b1), .val (.int (1 : Int32))] [(.int (1 : Int32))]))
  refine own_st (fun t k => XS.istore X30.here hx rfl (hb hby at_168) rfl (l' := #[.val (.int p1), .val (.int p2), .val (.int p3), .val (.long q4), .second, .val (.int mm), .val (.int ua), .val (.int ul), .val (.ref b1), .val (.int (1 : Int32))]) rfl k) ?_
  show own_Go p e below K (T30.setTop (mkF m 170 #[.val (.int p1), .val (.int p2), .val (.int p3), .val (.long q4), .second, .val (.int mm), .val (.int ua), .val (.int ul), .val (.ref b1), .val (.int (1 : Int32))] []))
  refine own_st (fun t k => XS.iload X30.here hx rfl (hb hby at_170) rfl k) ?_
  show own_Go p e below K (T30.setTop (mkF m 172 #[.val (.int p1), .val (.int p2), .val (.int p3), .val (.long q4), .second, .val (.int mm), .val (.int ua), .val (.int ul), .val (.ref b1), .val (.int (1 : Int32))] [(.int (1 : Int32))]))
  refine own_st (fun t k => XS.ifNo X30.here hx rfl (hb hby at_172) rfl ((if0 _ _).trans (feq (by decide : ¬ ((1 : Int32) = (0 : Int32)))).1) k) ?_
  show own_Go p e below K (T30.setTop (mkF m 175 #[.val (.int p1), .val (.int p2), .val (.int p3), .val (.long q4), .second, .val (.int mm), .val (.int ua), .val (.int ul), .val (.ref b1), .val (.int (1 : Int32))] []))
  refine own_st (fun t k => XS.aload X30.here hx rfl (hb hby at_175) rfl rfl k) ?_
  show own_Go p e below K (T30.setTop (mkF m 177 #[.val (.int p1), .val (.int p2), .val (.int p3), .val (.long q4), .second, .val (.int mm), .val (.int ua), .val (.int ul), .val (.ref b1), .val (.int (1 : Int32))] [(.ref b1)]))
  refine own_st (fun t k => XS.iconst X30.here hx rfl (hb hby at_177) k) ?_
  show own_Go p e below K (T30.setTop (mkF m 178 #[.val (.int p1), .val (.int p2), .val (.int p3), .val (.long q4), .second, .val (.int mm), .val (.int ua), .val (.int ul), .val (.ref b1), .val (.int (1 : Int32))] [(.int (1 : Int32)), (.ref b1)]))
  refine own_st (fun t k => XS.iload X30.here hx rfl (hb hby at_178) rfl k) ?_
  show own_Go p e below K (T30.setTop (mkF m 180 #[.val (.int p1), .val (.int p2), .val (.int p3), .val (.long q4), .second, .val (.int mm), .val (.int ua), .val (.int ul), .val (.ref b1), .val (.int (1 : Int32))] [(.int mm), (.int (1 : Int32)), (.ref b1)]))
  refine own_st (fun t k => XS.lloadN X30.here hx rfl (hb hby at_180) rfl k) ?_
  show own_Go p e below K (T30.setTop (mkF m 181 #[.val (.int p1), .val (.int p2), .val (.int p3), .val (.long q4), .second, .val (.int mm), .val (.int ua), .val (.int ul), .val (.ref b1), .val (.int (1 : Int32))] [(.long q4), (.int mm), (.int (1 : Int32)), (.ref b1)]))
  obtain ⟨_, _, ⟨T31, L31, k31, n31⟩, -, X31, ⟨Lc31, hQ31, l31, y31, z31⟩, st31⟩ := Jvm.LawKit.callS X30 hx (y := (⟨"com/example/micrologue/micrologue/BytecodeWriteHeaderPinLaw", "kept", "([BIIJ)Z"⟩ : MethodName)) hown (mvT hZ (hw _ (List.mem_of_getElem? (i := 14) rfl))) (mvT hZ (hw _ (List.mem_of_getElem? (i := 15) rfl))) (mvT hZ (hw _ (List.mem_of_getElem? (i := 5) rfl))) (mvT hZ (hw _ (List.mem_of_getElem? (i := 16) rfl))) (by decide) (backOf (W := 0) (rm4 l Z a0 hw [] b1 (1 : Int32) mm q4 (k1) ((8 : Int32)) (ys) T26.heap n0 Z26 V27 (by decide)) hZ (hw _ (List.mem_of_getElem? (i := 16) rfl)) (hw _ (List.mem_of_getElem? (i := 5) rfl)) (by decide) (by decide)) (g := (mkF m 181 #[.val (.int p1), .val (.int p2), .val (.int p3), .val (.long q4), .second, .val (.int mm), .val (.int ua), .val (.int ul), .val (.ref b1), .val (.int (1 : Int32))] [(.long q4), (.int mm), (.int (1 : Int32)), (.ref b1)])) rfl (by rw [hml]; rfl) (argsL := [(.ref b1), (.int (1 : Int32)), (.int mm), (.long q4)]) (rest := []) (lenOf pd_0_3 rfl) rfl (by show 2 * 0 + _ ≤ _; exact Nat.le_of_eq rfl) (hb hby at_181) (fun _ _ => ⟨rfl, e30, (by decide : 1 + 0 ≤ _), (by decide : 8 + 0 ≤ _)⟩)
  dsimp only [Pt.U, Pt.locs, Pt.cells, Pt.slots] at X31 l31 y31 z31 st31 hQ31
  obtain ⟨r31, rfl, hr31, N31q, e31⟩ := hQ31
  have N31 : Fr n0 L31 := by rw [l31]; exact Fr.app N30 N31q
  clear l31
  have y31' : k31 = 1 := y31
  have z31' : n31 = 8 := z31
  clear y31 z31
  subst y31' z31'
  refine own_st st31 ?_
  show own_Go p e below K (T31.setTop (mkF m 184 #[.val (.int p1), .val (.int p2), .val (.int p3), .val (.long q4), .second, .val (.int mm), .val (.int ua), .val (.int ul), .val (.ref b1), .val (.int (1 : Int32))] [(.int r31)]))
  try clear X30 e30 st31 N30 N31q
  refine own_st (fun t k => XS.ifNo X31.here hx rfl (hb hby at_184) rfl ((if0 _ _).trans (feq (own_B.ne0 hr31 (by rw [hys]; exact own_k1 Bm hr5) : ¬ (r31 = (0 : Int32)))).1) k) ?_
  show own_Go p e below K (T31.setTop (mkF m 187 #[.val (.int p1), .val (.int p2), .val (.int p3), .val (.long q4), .second, .val (.int mm), .val (.int ua), .val (.int ul), .val (.ref b1), .val (.int (1 : Int32))] []))
  refine own_st (fun t k => XS.iconst X31.here hx rfl (hb hby at_187) k) ?_
  show own_Go p e below K (T31.setTop (mkF m 188 #[.val (.int p1), .val (.int p2), .val (.int p3), .val (.long q4), .second, .val (.int mm), .val (.int ua), .val (.int ul), .val (.ref b1), .val (.int (1 : Int32))] [(.int (1 : Int32))]))
  refine own_st (fun t k => XS.goto X31.here hx rfl (pc0 := 188) (pc' := 192) rfl (hb hby at_188) (by decide) (by decide) k) ?_
  show own_Go p e below K (T31.setTop (mkF m 192 #[.val (.int p1), .val (.int p2), .val (.int p3), .val (.long q4), .second, .val (.int mm), .val (.int ua), .val (.int ul), .val (.ref b1), .val (.int (1 : Int32))] [(.int (1 : Int32))]))
  refine own_st (fun t k => XS.istore X31.here hx rfl (hb hby at_192) rfl (l' := #[.val (.int p1), .val (.int p2), .val (.int p3), .val (.long q4), .second, .val (.int mm), .val (.int ua), .val (.int ul), .val (.ref b1), .val (.int (1 : Int32))]) rfl k) ?_
  show own_Go p e below K (T31.setTop (mkF m 194 #[.val (.int p1), .val (.int p2), .val (.int p3), .val (.long q4), .second, .val (.int mm), .val (.int ua), .val (.int ul), .val (.ref b1), .val (.int (1 : Int32))] []))
  refine own_st (fun t k => XS.iload X31.here hx rfl (hb hby at_194) rfl k) ?_
  show own_Go p e below K (T31.setTop (mkF m 196 #[.val (.int p1), .val (.int p2), .val (.int p3), .val (.long q4), .second, .val (.int mm), .val (.int ua), .val (.int ul), .val (.ref b1), .val (.int (1 : Int32))] [(.int (1 : Int32))]))
  refine own_st (fun t k => XS.ifNo X31.here hx rfl (hb hby at_196) rfl ((if0 _ _).trans (feq (by decide : ¬ ((1 : Int32) = (0 : Int32)))).1) k) ?_
  show own_Go p e below K (T31.setTop (mkF m 199 #[.val (.int p1), .val (.int p2), .val (.int p3), .val (.long q4), .second, .val (.int mm), .val (.int ua), .val (.int ul), .val (.ref b1), .val (.int (1 : Int32))] []))
  refine own_st (fun t k => XS.aload X31.here hx rfl (hb hby at_199) rfl rfl k) ?_
  show own_Go p e below K (T31.setTop (mkF m 201 #[.val (.int p1), .val (.int p2), .val (.int p3), .val (.long q4), .second, .val (.int mm), .val (.int ua), .val (.int ul), .val (.ref b1), .val (.int (1 : Int32))] [(.ref b1)]))
  refine own_st (fun t k => XS.iconst X31.here hx rfl (hb hby at_201) k) ?_
  show own_Go p e below K (T31.setTop (mkF m 202 #[.val (.int p1), .val (.int p2), .val (.int p3), .val (.long q4), .second, .val (.int mm), .val (.int ua), .val (.int ul), .val (.ref b1), .val (.int (1 : Int32))] [(.int (2 : Int32)), (.ref b1)]))
  refine own_st (fun t k => XS.iload X31.here hx rfl (hb hby at_202) rfl k) ?_
  show own_Go p e below K (T31.setTop (mkF m 204 #[.val (.int p1), .val (.int p2), .val (.int p3), .val (.long q4), .second, .val (.int mm), .val (.int ua), .val (.int ul), .val (.ref b1), .val (.int (1 : Int32))] [(.int mm), (.int (2 : Int32)), (.ref b1)]))
  refine own_st (fun t k => XS.lloadN X31.here hx rfl (hb hby at_204) rfl k) ?_
  show own_Go p e below K (T31.setTop (mkF m 205 #[.val (.int p1), .val (.int p2), .val (.int p3), .val (.long q4), .second, .val (.int mm), .val (.int ua), .val (.int ul), .val (.ref b1), .val (.int (1 : Int32))] [(.long q4), (.int mm), (.int (2 : Int32)), (.ref b1)]))
  obtain ⟨_, _, ⟨T32, L32, k32, n32⟩, -, X32, ⟨Lc32, hQ32, l32, y32, z32⟩, st32⟩ := Jvm.LawKit.callS X31 hx (y := (⟨"com/example/micrologue/micrologue/BytecodeWriteHeaderPinLaw", "kept", "([BIIJ)Z"⟩ : MethodName)) hown (mvT hZ (hw _ (List.mem_of_getElem? (i := 14) rfl))) (mvT hZ (hw _ (List.mem_of_getElem? (i := 15) rfl))) (mvT hZ (hw _ (List.mem_of_getElem? (i := 5) rfl))) (mvT hZ (hw _ (List.mem_of_getElem? (i := 16) rfl))) (by decide) (backOf (W := 0) (rm4 l Z a0 hw [] b1 (2 : Int32) mm q4 (k1) ((8 : Int32)) (ys) T26.heap n0 Z26 V27 (by decide)) hZ (hw _ (List.mem_of_getElem? (i := 16) rfl)) (hw _ (List.mem_of_getElem? (i := 5) rfl)) (by decide) (by decide)) (g := (mkF m 205 #[.val (.int p1), .val (.int p2), .val (.int p3), .val (.long q4), .second, .val (.int mm), .val (.int ua), .val (.int ul), .val (.ref b1), .val (.int (1 : Int32))] [(.long q4), (.int mm), (.int (2 : Int32)), (.ref b1)])) rfl (by rw [hml]; rfl) (argsL := [(.ref b1), (.int (2 : Int32)), (.int mm), (.long q4)]) (rest := []) (lenOf pd_0_3 rfl) rfl (by show 2 * 0 + _ ≤ _; exact Nat.le_of_eq rfl) (hb hby at_205) (fun _ _ => ⟨rfl, e31, (by decide : 1 + 0 ≤ _), (by decide : 8 + 0 ≤ _)⟩)
  dsimp only [Pt.U, Pt.locs, Pt.cells, Pt.slots] at X32 l32 y32 z32 st32 hQ32
  obtain ⟨r32, rfl, hr32, N32q, e32⟩ := hQ32
  have N32 : Fr n0 L32 := by rw [l32]; exact Fr.app N31 N32q
  clear l32
  have y32' : k32 = 1 := y32
  have z32' : n32 = 8 := z32
  clear y32 z32
  subst y32' z32'
  refine own_st st32 ?_
  show own_Go p e below K (T32.setTop (mkF m 208 #[.val (.int p1), .val (.int p2), .val (.int p3), .val (.long q4), .second, .val (.int mm), .val (.int ua), .val (.int ul), .val (.ref b1), .val (.int (1 : Int32))] [(.int r32)]))
  try clear X31 e31 st32 N31 N32q
  refine own_st (fun t k => XS.ifNo X32.here hx rfl (hb hby at_208) rfl ((if0 _ _).trans (feq (own_B.ne0 hr32 (by rw [hys]; exact own_k2 Bm hr8) : ¬ (r32 = (0 : Int32)))).1) k) ?_
  show own_Go p e below K (T32.setTop (mkF m 211 #[.val (.int p1), .val (.int p2), .val (.int p3), .val (.long q4), .second, .val (.int mm), .val (.int ua), .val (.int ul), .val (.ref b1), .val (.int (1 : Int32))] []))
  refine own_st (fun t k => XS.iconst X32.here hx rfl (hb hby at_211) k) ?_
  show own_Go p e below K (T32.setTop (mkF m 212 #[.val (.int p1), .val (.int p2), .val (.int p3), .val (.long q4), .second, .val (.int mm), .val (.int ua), .val (.int ul), .val (.ref b1), .val (.int (1 : Int32))] [(.int (1 : Int32))]))
  refine own_st (fun t k => XS.goto X32.here hx rfl (pc0 := 212) (pc' := 216) rfl (hb hby at_212) (by decide) (by decide) k) ?_
  show own_Go p e below K (T32.setTop (mkF m 216 #[.val (.int p1), .val (.int p2), .val (.int p3), .val (.long q4), .second, .val (.int mm), .val (.int ua), .val (.int ul), .val (.ref b1), .val (.int (1 : Int32))] [(.int (1 : Int32))]))
  refine own_st (fun t k => XS.istore X32.here hx rfl (hb hby at_216) rfl (l' := #[.val (.int p1), .val (.int p2), .val (.int p3), .val (.long q4), .second, .val (.int mm), .val (.int ua), .val (.int ul), .val (.ref b1), .val (.int (1 : Int32))]) rfl k) ?_
  show own_Go p e below K (T32.setTop (mkF m 218 #[.val (.int p1), .val (.int p2), .val (.int p3), .val (.long q4), .second, .val (.int mm), .val (.int ua), .val (.int ul), .val (.ref b1), .val (.int (1 : Int32))] []))
  refine own_st (fun t k => XS.iload X32.here hx rfl (hb hby at_218) rfl k) ?_
  show own_Go p e below K (T32.setTop (mkF m 220 #[.val (.int p1), .val (.int p2), .val (.int p3), .val (.long q4), .second, .val (.int mm), .val (.int ua), .val (.int ul), .val (.ref b1), .val (.int (1 : Int32))] [(.int (1 : Int32))]))
  refine own_st (fun t k => XS.ifNo X32.here hx rfl (hb hby at_220) rfl ((if0 _ _).trans (feq (by decide : ¬ ((1 : Int32) = (0 : Int32)))).1) k) ?_
  show own_Go p e below K (T32.setTop (mkF m 223 #[.val (.int p1), .val (.int p2), .val (.int p3), .val (.long q4), .second, .val (.int mm), .val (.int ua), .val (.int ul), .val (.ref b1), .val (.int (1 : Int32))] []))
  refine own_st (fun t k => XS.aload X32.here hx rfl (hb hby at_223) rfl rfl k) ?_
  show own_Go p e below K (T32.setTop (mkF m 225 #[.val (.int p1), .val (.int p2), .val (.int p3), .val (.long q4), .second, .val (.int mm), .val (.int ua), .val (.int ul), .val (.ref b1), .val (.int (1 : Int32))] [(.ref b1)]))
  refine own_st (fun t k => XS.iconst X32.here hx rfl (hb hby at_225) k) ?_
  show own_Go p e below K (T32.setTop (mkF m 226 #[.val (.int p1), .val (.int p2), .val (.int p3), .val (.long q4), .second, .val (.int mm), .val (.int ua), .val (.int ul), .val (.ref b1), .val (.int (1 : Int32))] [(.int (3 : Int32)), (.ref b1)]))
  refine own_st (fun t k => XS.iload X32.here hx rfl (hb hby at_226) rfl k) ?_
  show own_Go p e below K (T32.setTop (mkF m 228 #[.val (.int p1), .val (.int p2), .val (.int p3), .val (.long q4), .second, .val (.int mm), .val (.int ua), .val (.int ul), .val (.ref b1), .val (.int (1 : Int32))] [(.int mm), (.int (3 : Int32)), (.ref b1)]))
  refine own_st (fun t k => XS.lloadN X32.here hx rfl (hb hby at_228) rfl k) ?_
  show own_Go p e below K (T32.setTop (mkF m 229 #[.val (.int p1), .val (.int p2), .val (.int p3), .val (.long q4), .second, .val (.int mm), .val (.int ua), .val (.int ul), .val (.ref b1), .val (.int (1 : Int32))] [(.long q4), (.int mm), (.int (3 : Int32)), (.ref b1)]))
  obtain ⟨_, _, ⟨T33, L33, k33, n33⟩, -, X33, ⟨Lc33, hQ33, l33, y33, z33⟩, st33⟩ := Jvm.LawKit.callS X32 hx (y := (⟨"com/example/micrologue/micrologue/BytecodeWriteHeaderPinLaw", "kept", "([BIIJ)Z"⟩ : MethodName)) hown (mvT hZ (hw _ (List.mem_of_getElem? (i := 14) rfl))) (mvT hZ (hw _ (List.mem_of_getElem? (i := 15) rfl))) (mvT hZ (hw _ (List.mem_of_getElem? (i := 5) rfl))) (mvT hZ (hw _ (List.mem_of_getElem? (i := 16) rfl))) (by decide) (backOf (W := 0) (rm4 l Z a0 hw [] b1 (3 : Int32) mm q4 (k1) ((8 : Int32)) (ys) T26.heap n0 Z26 V27 (by decide)) hZ (hw _ (List.mem_of_getElem? (i := 16) rfl)) (hw _ (List.mem_of_getElem? (i := 5) rfl)) (by decide) (by decide)) (g := (mkF m 229 #[.val (.int p1), .val (.int p2), .val (.int p3), .val (.long q4), .second, .val (.int mm), .val (.int ua), .val (.int ul), .val (.ref b1), .val (.int (1 : Int32))] [(.long q4), (.int mm), (.int (3 : Int32)), (.ref b1)])) rfl (by rw [hml]; rfl) (argsL := [(.ref b1), (.int (3 : Int32)), (.int mm), (.long q4)]) (rest := []) (lenOf pd_0_3 rfl) rfl (by show 2 * 0 + _ ≤ _; exact Nat.le_of_eq rfl) (hb hby at_229) (fun _ _ => ⟨rfl, e32, (by decide : 1 + 0 ≤ _), (by decide : 8 + 0 ≤ _)⟩)
  dsimp only [Pt.U, Pt.locs, Pt.cells, Pt.slots] at X33 l33 y33 z33 st33 hQ33
  obtain ⟨r33, rfl, hr33, N33q, e33⟩ := hQ33
  have N33 : Fr n0 L33 := by rw [l33]; exact Fr.app N32 N33q
  clear l33
  have y33' : k33 = 1 := y33
  have z33' : n33 = 8 := z33
  clear y33 z33
  subst y33' z33'
  refine own_st st33 ?_
  show own_Go p e below K (T33.setTop (mkF m 232 #[.val (.int p1), .val (.int p2), .val (.int p3), .val (.long q4), .second, .val (.int mm), .val (.int ua), .val (.int ul), .val (.ref b1), .val (.int (1 : Int32))] [(.int r33)]))
  try clear X32 e32 st33 N32 N33q
  refine own_st (fun t k => XS.ifNo X33.here hx rfl (hb hby at_232) rfl ((if0 _ _).trans (feq (own_B.ne0 hr33 (by rw [hys]; exact own_k3 Bm hr11) : ¬ (r33 = (0 : Int32)))).1) k) ?_
  show own_Go p e below K (T33.setTop (mkF m 235 #[.val (.int p1), .val (.int p2), .val (.int p3), .val (.long q4), .second, .val (.int mm), .val (.int ua), .val (.int ul), .val (.ref b1), .val (.int (1 : Int32))] []))
  refine own_st (fun t k => XS.iconst X33.here hx rfl (hb hby at_235) k) ?_
  show own_Go p e below K (T33.setTop (mkF m 236 #[.val (.int p1), .val (.int p2), .val (.int p3), .val (.long q4), .second, .val (.int mm), .val (.int ua), .val (.int ul), .val (.ref b1), .val (.int (1 : Int32))] [(.int (1 : Int32))]))
  refine own_st (fun t k => XS.goto X33.here hx rfl (pc0 := 236) (pc' := 240) rfl (hb hby at_236) (by decide) (by decide) k) ?_
  show own_Go p e below K (T33.setTop (mkF m 240 #[.val (.int p1), .val (.int p2), .val (.int p3), .val (.long q4), .second, .val (.int mm), .val (.int ua), .val (.int ul), .val (.ref b1), .val (.int (1 : Int32))] [(.int (1 : Int32))]))
  refine own_st (fun t k => XS.istore X33.here hx rfl (hb hby at_240) rfl (l' := #[.val (.int p1), .val (.int p2), .val (.int p3), .val (.long q4), .second, .val (.int mm), .val (.int ua), .val (.int ul), .val (.ref b1), .val (.int (1 : Int32))]) rfl k) ?_
  show own_Go p e below K (T33.setTop (mkF m 242 #[.val (.int p1), .val (.int p2), .val (.int p3), .val (.long q4), .second, .val (.int mm), .val (.int ua), .val (.int ul), .val (.ref b1), .val (.int (1 : Int32))] []))
  refine own_st (fun t k => XS.iload X33.here hx rfl (hb hby at_242) rfl k) ?_
  show own_Go p e below K (T33.setTop (mkF m 244 #[.val (.int p1), .val (.int p2), .val (.int p3), .val (.long q4), .second, .val (.int mm), .val (.int ua), .val (.int ul), .val (.ref b1), .val (.int (1 : Int32))] [(.int (1 : Int32))]))
  refine own_st (fun t k => XS.ifNo X33.here hx rfl (hb hby at_244) rfl ((if0 _ _).trans (feq (by decide : ¬ ((1 : Int32) = (0 : Int32)))).1) k) ?_
  show own_Go p e below K (T33.setTop (mkF m 247 #[.val (.int p1), .val (.int p2), .val (.int p3), .val (.long q4), .second, .val (.int mm), .val (.int ua), .val (.int ul), .val (.ref b1), .val (.int (1 : Int32))] []))
  refine own_st (fun t k => XS.aload X33.here hx rfl (hb hby at_247) rfl rfl k) ?_
  show own_Go p e below K (T33.setTop (mkF m 249 #[.val (.int p1), .val (.int p2), .val (.int p3), .val (.long q4), .second, .val (.int mm), .val (.int ua), .val (.int ul), .val (.ref b1), .val (.int (1 : Int32))] [(.ref b1)]))
  refine own_st (fun t k => XS.iconst X33.here hx rfl (hb hby at_249) k) ?_
  show own_Go p e below K (T33.setTop (mkF m 250 #[.val (.int p1), .val (.int p2), .val (.int p3), .val (.long q4), .second, .val (.int mm), .val (.int ua), .val (.int ul), .val (.ref b1), .val (.int (1 : Int32))] [(.int (4 : Int32)), (.ref b1)]))
  refine own_st (fun t k => XS.iload X33.here hx rfl (hb hby at_250) rfl k) ?_
  show own_Go p e below K (T33.setTop (mkF m 252 #[.val (.int p1), .val (.int p2), .val (.int p3), .val (.long q4), .second, .val (.int mm), .val (.int ua), .val (.int ul), .val (.ref b1), .val (.int (1 : Int32))] [(.int mm), (.int (4 : Int32)), (.ref b1)]))
  refine own_st (fun t k => XS.lloadN X33.here hx rfl (hb hby at_252) rfl k) ?_
  show own_Go p e below K (T33.setTop (mkF m 253 #[.val (.int p1), .val (.int p2), .val (.int p3), .val (.long q4), .second, .val (.int mm), .val (.int ua), .val (.int ul), .val (.ref b1), .val (.int (1 : Int32))] [(.long q4), (.int mm), (.int (4 : Int32)), (.ref b1)]))
  obtain ⟨_, _, ⟨T34, L34, k34, n34⟩, -, X34, ⟨Lc34, hQ34, l34, y34, z34⟩, st34⟩ := Jvm.LawKit.callS X33 hx (y := (⟨"com/example/micrologue/micrologue/BytecodeWriteHeaderPinLaw", "kept", "([BIIJ)Z"⟩ : MethodName)) hown (mvT hZ (hw _ (List.mem_of_getElem? (i := 14) rfl))) (mvT hZ (hw _ (List.mem_of_getElem? (i := 15) rfl))) (mvT hZ (hw _ (List.mem_of_getElem? (i := 5) rfl))) (mvT hZ (hw _ (List.mem_of_getElem? (i := 16) rfl))) (by decide) (backOf (W := 0) (rm4 l Z a0 hw [] b1 (4 : Int32) mm q4 (k1) ((8 : Int32)) (ys) T26.heap n0 Z26 V27 (by decide)) hZ (hw _ (List.mem_of_getElem? (i := 16) rfl)) (hw _ (List.mem_of_getElem? (i := 5) rfl)) (by decide) (by decide)) (g := (mkF m 253 #[.val (.int p1), .val (.int p2), .val (.int p3), .val (.long q4), .second, .val (.int mm), .val (.int ua), .val (.int ul), .val (.ref b1), .val (.int (1 : Int32))] [(.long q4), (.int mm), (.int (4 : Int32)), (.ref b1)])) rfl (by rw [hml]; rfl) (argsL := [(.ref b1), (.int (4 : Int32)), (.int mm), (.long q4)]) (rest := []) (lenOf pd_0_3 rfl) rfl (by show 2 * 0 + _ ≤ _; exact Nat.le_of_eq rfl) (hb hby at_253) (fun _ _ => ⟨rfl, e33, (by decide : 1 + 0 ≤ _), (by decide : 8 + 0 ≤ _)⟩)
  dsimp only [Pt.U, Pt.locs, Pt.cells, Pt.slots] at X34 l34 y34 z34 st34 hQ34
  obtain ⟨r34, rfl, hr34, N34q, e34⟩ := hQ34
  have N34 : Fr n0 L34 := by rw [l34]; exact Fr.app N33 N34q
  clear l34
  have y34' : k34 = 1 := y34
  have z34' : n34 = 8 := z34
  clear y34 z34
  subst y34' z34'
  refine own_st st34 ?_
  show own_Go p e below K (T34.setTop (mkF m 256 #[.val (.int p1), .val (.int p2), .val (.int p3), .val (.long q4), .second, .val (.int mm), .val (.int ua), .val (.int ul), .val (.ref b1), .val (.int (1 : Int32))] [(.int r34)]))
  try clear X33 e33 st34 N33 N34q
  refine own_st (fun t k => XS.ifNo X34.here hx rfl (hb hby at_256) rfl ((if0 _ _).trans (feq (own_B.ne0 hr34 (by rw [hys]; exact own_k4 Bm hr14) : ¬ (r34 = (0 : Int32)))).1) k) ?_
  show own_Go p e below K (T34.setTop (mkF m 259 #[.val (.int p1), .val (.int p2), .val (.int p3), .val (.long q4), .second, .val (.int mm), .val (.int ua), .val (.int ul), .val (.ref b1), .val (.int (1 : Int32))] []))
  refine own_st (fun t k => XS.iconst X34.here hx rfl (hb hby at_259) k) ?_
  show own_Go p e below K (T34.setTop (mkF m 260 #[.val (.int p1), .val (.int p2), .val (.int p3), .val (.long q4), .second, .val (.int mm), .val (.int ua), .val (.int ul), .val (.ref b1), .val (.int (1 : Int32))] [(.int (1 : Int32))]))
  refine own_st (fun t k => XS.goto X34.here hx rfl (pc0 := 260) (pc' := 264) rfl (hb hby at_260) (by decide) (by decide) k) ?_
  show own_Go p e below K (T34.setTop (mkF m 264 #[.val (.int p1), .val (.int p2), .val (.int p3), .val (.long q4), .second, .val (.int mm), .val (.int ua), .val (.int ul), .val (.ref b1), .val (.int (1 : Int32))] [(.int (1 : Int32))]))
  refine own_st (fun t k => XS.istore X34.here hx rfl (hb hby at_264) rfl (l' := #[.val (.int p1), .val (.int p2), .val (.int p3), .val (.long q4), .second, .val (.int mm), .val (.int ua), .val (.int ul), .val (.ref b1), .val (.int (1 : Int32))]) rfl k) ?_
  show own_Go p e below K (T34.setTop (mkF m 266 #[.val (.int p1), .val (.int p2), .val (.int p3), .val (.long q4), .second, .val (.int mm), .val (.int ua), .val (.int ul), .val (.ref b1), .val (.int (1 : Int32))] []))
  refine own_st (fun t k => XS.iload X34.here hx rfl (hb hby at_266) rfl k) ?_
  show own_Go p e below K (T34.setTop (mkF m 268 #[.val (.int p1), .val (.int p2), .val (.int p3), .val (.long q4), .second, .val (.int mm), .val (.int ua), .val (.int ul), .val (.ref b1), .val (.int (1 : Int32))] [(.int (1 : Int32))]))
  refine own_st (fun t k => XS.ifNo X34.here hx rfl (hb hby at_268) rfl ((if0 _ _).trans (feq (by decide : ¬ ((1 : Int32) = (0 : Int32)))).1) k) ?_
  show own_Go p e below K (T34.setTop (mkF m 271 #[.val (.int p1), .val (.int p2), .val (.int p3), .val (.long q4), .second, .val (.int mm), .val (.int ua), .val (.int ul), .val (.ref b1), .val (.int (1 : Int32))] []))
  refine own_st (fun t k => XS.aload X34.here hx rfl (hb hby at_271) rfl rfl k) ?_
  show own_Go p e below K (T34.setTop (mkF m 273 #[.val (.int p1), .val (.int p2), .val (.int p3), .val (.long q4), .second, .val (.int mm), .val (.int ua), .val (.int ul), .val (.ref b1), .val (.int (1 : Int32))] [(.ref b1)]))
  refine own_st (fun t k => XS.iconst X34.here hx rfl (hb hby at_273) k) ?_
  show own_Go p e below K (T34.setTop (mkF m 274 #[.val (.int p1), .val (.int p2), .val (.int p3), .val (.long q4), .second, .val (.int mm), .val (.int ua), .val (.int ul), .val (.ref b1), .val (.int (1 : Int32))] [(.int (5 : Int32)), (.ref b1)]))
  refine own_st (fun t k => XS.iload X34.here hx rfl (hb hby at_274) rfl k) ?_
  show own_Go p e below K (T34.setTop (mkF m 276 #[.val (.int p1), .val (.int p2), .val (.int p3), .val (.long q4), .second, .val (.int mm), .val (.int ua), .val (.int ul), .val (.ref b1), .val (.int (1 : Int32))] [(.int mm), (.int (5 : Int32)), (.ref b1)]))
  refine own_st (fun t k => XS.lloadN X34.here hx rfl (hb hby at_276) rfl k) ?_
  show own_Go p e below K (T34.setTop (mkF m 277 #[.val (.int p1), .val (.int p2), .val (.int p3), .val (.long q4), .second, .val (.int mm), .val (.int ua), .val (.int ul), .val (.ref b1), .val (.int (1 : Int32))] [(.long q4), (.int mm), (.int (5 : Int32)), (.ref b1)]))
  obtain ⟨_, _, ⟨T35, L35, k35, n35⟩, -, X35, ⟨Lc35, hQ35, l35, y35, z35⟩, st35⟩ := Jvm.LawKit.callS X34 hx (y := (⟨"com/example/micrologue/micrologue/BytecodeWriteHeaderPinLaw", "kept", "([BIIJ)Z"⟩ : MethodName)) hown (mvT hZ (hw _ (List.mem_of_getElem? (i := 14) rfl))) (mvT hZ (hw _ (List.mem_of_getElem? (i := 15) rfl))) (mvT hZ (hw _ (List.mem_of_getElem? (i := 5) rfl))) (mvT hZ (hw _ (List.mem_of_getElem? (i := 16) rfl))) (by decide) (backOf (W := 0) (rm4 l Z a0 hw [] b1 (5 : Int32) mm q4 (k1) ((8 : Int32)) (ys) T26.heap n0 Z26 V27 (by decide)) hZ (hw _ (List.mem_of_getElem? (i := 16) rfl)) (hw _ (List.mem_of_getElem? (i := 5) rfl)) (by decide) (by decide)) (g := (mkF m 277 #[.val (.int p1), .val (.int p2), .val (.int p3), .val (.long q4), .second, .val (.int mm), .val (.int ua), .val (.int ul), .val (.ref b1), .val (.int (1 : Int32))] [(.long q4), (.int mm), (.int (5 : Int32)), (.ref b1)])) rfl (by rw [hml]; rfl) (argsL := [(.ref b1), (.int (5 : Int32)), (.int mm), (.long q4)]) (rest := []) (lenOf pd_0_3 rfl) rfl (by show 2 * 0 + _ ≤ _; exact Nat.le_of_eq rfl) (hb hby at_277) (fun _ _ => ⟨rfl, e34, (by decide : 1 + 0 ≤ _), (by decide : 8 + 0 ≤ _)⟩)
  dsimp only [Pt.U, Pt.locs, Pt.cells, Pt.slots] at X35 l35 y35 z35 st35 hQ35
  obtain ⟨r35, rfl, hr35, N35q, e35⟩ := hQ35
  have N35 : Fr n0 L35 := by rw [l35]; exact Fr.app N34 N35q
  clear l35
  have y35' : k35 = 1 := y35
  have z35' : n35 = 8 := z35
  clear y35 z35
  subst y35' z35'
  refine own_st st35 ?_
  show own_Go p e below K (T35.setTop (mkF m 280 #[.val (.int p1), .val (.int p2), .val (.int p3), .val (.long q4), .second, .val (.int mm), .val (.int ua), .val (.int ul), .val (.ref b1), .val (.int (1 : Int32))] [(.int r35)]))
  try clear X34 e34 st35 N34 N35q
  refine own_st (fun t k => XS.ifNo X35.here hx rfl (hb hby at_280) rfl ((if0 _ _).trans (feq (own_B.ne0 hr35 (by rw [hys]; exact own_k5 Bm hr17) : ¬ (r35 = (0 : Int32)))).1) k) ?_
  show own_Go p e below K (T35.setTop (mkF m 283 #[.val (.int p1), .val (.int p2), .val (.int p3), .val (.long q4), .second, .val (.int mm), .val (.int ua), .val (.int ul), .val (.ref b1), .val (.int (1 : Int32))] []))
  refine own_st (fun t k => XS.iconst X35.here hx rfl (hb hby at_283) k) ?_
  show own_Go p e below K (T35.setTop (mkF m 284 #[.val (.int p1), .val (.int p2), .val (.int p3), .val (.long q4), .second, .val (.int mm), .val (.int ua), .val (.int ul), .val (.ref b1), .val (.int (1 : Int32))] [(.int (1 : Int32))]))
  refine own_st (fun t k => XS.goto X35.here hx rfl (pc0 := 284) (pc' := 288) rfl (hb hby at_284) (by decide) (by decide) k) ?_
  show own_Go p e below K (T35.setTop (mkF m 288 #[.val (.int p1), .val (.int p2), .val (.int p3), .val (.long q4), .second, .val (.int mm), .val (.int ua), .val (.int ul), .val (.ref b1), .val (.int (1 : Int32))] [(.int (1 : Int32))]))
  refine own_st (fun t k => XS.istore X35.here hx rfl (hb hby at_288) rfl (l' := #[.val (.int p1), .val (.int p2), .val (.int p3), .val (.long q4), .second, .val (.int mm), .val (.int ua), .val (.int ul), .val (.ref b1), .val (.int (1 : Int32))]) rfl k) ?_
  show own_Go p e below K (T35.setTop (mkF m 290 #[.val (.int p1), .val (.int p2), .val (.int p3), .val (.long q4), .second, .val (.int mm), .val (.int ua), .val (.int ul), .val (.ref b1), .val (.int (1 : Int32))] []))
  refine own_st (fun t k => XS.iload X35.here hx rfl (hb hby at_290) rfl k) ?_
  show own_Go p e below K (T35.setTop (mkF m 292 #[.val (.int p1), .val (.int p2), .val (.int p3), .val (.long q4), .second, .val (.int mm), .val (.int ua), .val (.int ul), .val (.ref b1), .val (.int (1 : Int32))] [(.int (1 : Int32))]))
  refine own_st (fun t k => XS.ifNo X35.here hx rfl (hb hby at_292) rfl ((if0 _ _).trans (feq (by decide : ¬ ((1 : Int32) = (0 : Int32)))).1) k) ?_
  show own_Go p e below K (T35.setTop (mkF m 295 #[.val (.int p1), .val (.int p2), .val (.int p3), .val (.long q4), .second, .val (.int mm), .val (.int ua), .val (.int ul), .val (.ref b1), .val (.int (1 : Int32))] []))
  refine own_st (fun t k => XS.aload X35.here hx rfl (hb hby at_295) rfl rfl k) ?_
  show own_Go p e below K (T35.setTop (mkF m 297 #[.val (.int p1), .val (.int p2), .val (.int p3), .val (.long q4), .second, .val (.int mm), .val (.int ua), .val (.int ul), .val (.ref b1), .val (.int (1 : Int32))] [(.ref b1)]))
  refine own_st (fun t k => XS.bipush X35.here hx rfl (hb hby at_297) k) ?_
  show own_Go p e below K (T35.setTop (mkF m 299 #[.val (.int p1), .val (.int p2), .val (.int p3), .val (.long q4), .second, .val (.int mm), .val (.int ua), .val (.int ul), .val (.ref b1), .val (.int (1 : Int32))] [(.int (6 : Int32)), (.ref b1)]))
  refine own_st (fun t k => XS.iload X35.here hx rfl (hb hby at_299) rfl k) ?_
  show own_Go p e below K (T35.setTop (mkF m 301 #[.val (.int p1), .val (.int p2), .val (.int p3), .val (.long q4), .second, .val (.int mm), .val (.int ua), .val (.int ul), .val (.ref b1), .val (.int (1 : Int32))] [(.int mm), (.int (6 : Int32)), (.ref b1)]))
  refine own_st (fun t k => XS.lloadN X35.here hx rfl (hb hby at_301) rfl k) ?_
  show own_Go p e below K (T35.setTop (mkF m 302 #[.val (.int p1), .val (.int p2), .val (.int p3), .val (.long q4), .second, .val (.int mm), .val (.int ua), .val (.int ul), .val (.ref b1), .val (.int (1 : Int32))] [(.long q4), (.int mm), (.int (6 : Int32)), (.ref b1)]))
  obtain ⟨_, _, ⟨T36, L36, k36, n36⟩, -, X36, ⟨Lc36, hQ36, l36, y36, z36⟩, st36⟩ := Jvm.LawKit.callS X35 hx (y := (⟨"com/example/micrologue/micrologue/BytecodeWriteHeaderPinLaw", "kept", "([BIIJ)Z"⟩ : MethodName)) hown (mvT hZ (hw _ (List.mem_of_getElem? (i := 14) rfl))) (mvT hZ (hw _ (List.mem_of_getElem? (i := 15) rfl))) (mvT hZ (hw _ (List.mem_of_getElem? (i := 5) rfl))) (mvT hZ (hw _ (List.mem_of_getElem? (i := 16) rfl))) (by decide) (backOf (W := 0) (rm4 l Z a0 hw [] b1 (6 : Int32) mm q4 (k1) ((8 : Int32)) (ys) T26.heap n0 Z26 V27 (by decide)) hZ (hw _ (List.mem_of_getElem? (i := 16) rfl)) (hw _ (List.mem_of_getElem? (i := 5) rfl)) (by decide) (by decide)) (g := (mkF m 302 #[.val (.int p1), .val (.int p2), .val (.int p3), .val (.long q4), .second, .val (.int mm), .val (.int ua), .val (.int ul), .val (.ref b1), .val (.int (1 : Int32))] [(.long q4), (.int mm), (.int (6 : Int32)), (.ref b1)])) rfl (by rw [hml]; rfl) (argsL := [(.ref b1), (.int (6 : Int32)), (.int mm), (.long q4)]) (rest := []) (lenOf pd_0_3 rfl) rfl (by show 2 * 0 + _ ≤ _; exact Nat.le_of_eq rfl) (hb hby at_302) (fun _ _ => ⟨rfl, e35, (by decide : 1 + 0 ≤ _), (by decide : 8 + 0 ≤ _)⟩)
  dsimp only [Pt.U, Pt.locs, Pt.cells, Pt.slots] at X36 l36 y36 z36 st36 hQ36
  obtain ⟨r36, rfl, hr36, N36q, e36⟩ := hQ36
  have N36 : Fr n0 L36 := by rw [l36]; exact Fr.app N35 N36q
  clear l36
  have y36' : k36 = 1 := y36
  have z36' : n36 = 8 := z36
  clear y36 z36
  subst y36' z36'
  refine own_st st36 ?_
  show own_Go p e below K (T36.setTop (mkF m 305 #[.val (.int p1), .val (.int p2), .val (.int p3), .val (.long q4), .second, .val (.int mm), .val (.int ua), .val (.int ul), .val (.ref b1), .val (.int (1 : Int32))] [(.int r36)]))
  try clear X35 e35 st36 N35 N36q
  refine own_st (fun t k => XS.ifNo X36.here hx rfl (hb hby at_305) rfl ((if0 _ _).trans (feq (own_B.ne0 hr36 (by rw [hys]; exact own_k6 Bm hr20) : ¬ (r36 = (0 : Int32)))).1) k) ?_
  show own_Go p e below K (T36.setTop (mkF m 308 #[.val (.int p1), .val (.int p2), .val (.int p3), .val (.long q4), .second, .val (.int mm), .val (.int ua), .val (.int ul), .val (.ref b1), .val (.int (1 : Int32))] []))
  refine own_st (fun t k => XS.iconst X36.here hx rfl (hb hby at_308) k) ?_
  show own_Go p e below K (T36.setTop (mkF m 309 #[.val (.int p1), .val (.int p2), .val (.int p3), .val (.long q4), .second, .val (.int mm), .val (.int ua), .val (.int ul), .val (.ref b1), .val (.int (1 : Int32))] [(.int (1 : Int32))]))
  refine own_st (fun t k => XS.goto X36.here hx rfl (pc0 := 309) (pc' := 313) rfl (hb hby at_309) (by decide) (by decide) k) ?_
  show own_Go p e below K (T36.setTop (mkF m 313 #[.val (.int p1), .val (.int p2), .val (.int p3), .val (.long q4), .second, .val (.int mm), .val (.int ua), .val (.int ul), .val (.ref b1), .val (.int (1 : Int32))] [(.int (1 : Int32))]))
  refine own_st (fun t k => XS.istore X36.here hx rfl (hb hby at_313) rfl (l' := #[.val (.int p1), .val (.int p2), .val (.int p3), .val (.long q4), .second, .val (.int mm), .val (.int ua), .val (.int ul), .val (.ref b1), .val (.int (1 : Int32))]) rfl k) ?_
  show own_Go p e below K (T36.setTop (mkF m 315 #[.val (.int p1), .val (.int p2), .val (.int p3), .val (.long q4), .second, .val (.int mm), .val (.int ua), .val (.int ul), .val (.ref b1), .val (.int (1 : Int32))] []))
  refine own_st (fun t k => XS.iload X36.here hx rfl (hb hby at_315) rfl k) ?_
  show own_Go p e below K (T36.setTop (mkF m 317 #[.val (.int p1), .val (.int p2), .val (.int p3), .val (.long q4), .second, .val (.int mm), .val (.int ua), .val (.int ul), .val (.ref b1), .val (.int (1 : Int32))] [(.int (1 : Int32))]))
  refine own_st (fun t k => XS.ifNo X36.here hx rfl (hb hby at_317) rfl ((if0 _ _).trans (feq (by decide : ¬ ((1 : Int32) = (0 : Int32)))).1) k) ?_
  show own_Go p e below K (T36.setTop (mkF m 320 #[.val (.int p1), .val (.int p2), .val (.int p3), .val (.long q4), .second, .val (.int mm), .val (.int ua), .val (.int ul), .val (.ref b1), .val (.int (1 : Int32))] []))
  refine own_st (fun t k => XS.aload X36.here hx rfl (hb hby at_320) rfl rfl k) ?_
  show own_Go p e below K (T36.setTop (mkF m 322 #[.val (.int p1), .val (.int p2), .val (.int p3), .val (.long q4), .second, .val (.int mm), .val (.int ua), .val (.int ul), .val (.ref b1), .val (.int (1 : Int32))] [(.ref b1)]))
  refine own_st (fun t k => XS.bipush X36.here hx rfl (hb hby at_322) k) ?_
  show own_Go p e below K (T36.setTop (mkF m 324 #[.val (.int p1), .val (.int p2), .val (.int p3), .val (.long q4), .second, .val (.int mm), .val (.int ua), .val (.int ul), .val (.ref b1), .val (.int (1 : Int32))] [(.int (7 : Int32)), (.ref b1)]))
  refine own_st (fun t k => XS.iload X36.here hx rfl (hb hby at_324) rfl k) ?_
  show own_Go p e below K (T36.setTop (mkF m 326 #[.val (.int p1), .val (.int p2), .val (.int p3), .val (.long q4), .second, .val (.int mm), .val (.int ua), .val (.int ul), .val (.ref b1), .val (.int (1 : Int32))] [(.int mm), (.int (7 : Int32)), (.ref b1)]))
  refine own_st (fun t k => XS.lloadN X36.here hx rfl (hb hby at_326) rfl k) ?_
  show own_Go p e below K (T36.setTop (mkF m 327 #[.val (.int p1), .val (.int p2), .val (.int p3), .val (.long q4), .second, .val (.int mm), .val (.int ua), .val (.int ul), .val (.ref b1), .val (.int (1 : Int32))] [(.long q4), (.int mm), (.int (7 : Int32)), (.ref b1)]))
  obtain ⟨_, _, ⟨T37, L37, k37, n37⟩, -, X37, ⟨Lc37, hQ37, l37, y37, z37⟩, st37⟩ := Jvm.LawKit.callS X36 hx (y := (⟨"com/example/micrologue/micrologue/BytecodeWriteHeaderPinLaw", "kept", "([BIIJ)Z"⟩ : MethodName)) hown (mvT hZ (hw _ (List.mem_of_getElem? (i := 14) rfl))) (mvT hZ (hw _ (List.mem_of_getElem? (i := 15) rfl))) (mvT hZ (hw _ (List.mem_of_getElem? (i := 5) rfl))) (mvT hZ (hw _ (List.mem_of_getElem? (i := 16) rfl))) (by decide) (backOf (W := 0) (rm4 l Z a0 hw [] b1 (7 : Int32) mm q4 (k1) ((8 : Int32)) (ys) T26.heap n0 Z26 V27 (by decide)) hZ (hw _ (List.mem_of_getElem? (i := 16) rfl)) (hw _ (List.mem_of_getElem? (i := 5) rfl)) (by decide) (by decide)) (g := (mkF m 327 #[.val (.int p1), .val (.int p2), .val (.int p3), .val (.long q4), .second, .val (.int mm), .val (.int ua), .val (.int ul), .val (.ref b1), .val (.int (1 : Int32))] [(.long q4), (.int mm), (.int (7 : Int32)), (.ref b1)])) rfl (by rw [hml]; rfl) (argsL := [(.ref b1), (.int (7 : Int32)), (.int mm), (.long q4)]) (rest := []) (lenOf pd_0_3 rfl) rfl (by show 2 * 0 + _ ≤ _; exact Nat.le_of_eq rfl) (hb hby at_327) (fun _ _ => ⟨rfl, e36, (by decide : 1 + 0 ≤ _), (by decide : 8 + 0 ≤ _)⟩)
  dsimp only [Pt.U, Pt.locs, Pt.cells, Pt.slots] at X37 l37 y37 z37 st37 hQ37
  obtain ⟨r37, rfl, hr37, N37q, e37⟩ := hQ37
  have N37 : Fr n0 L37 := by rw [l37]; exact Fr.app N36 N37q
  clear l37
  have y37' : k37 = 1 := y37
  have z37' : n37 = 8 := z37
  clear y37 z37
  subst y37' z37'
  refine own_st st37 ?_
  show own_Go p e below K (T37.setTop (mkF m 330 #[.val (.int p1), .val (.int p2), .val (.int p3), .val (.long q4), .second, .val (.int mm), .val (.int ua), .val (.int ul), .val (.ref b1), .val (.int (1 : Int32))] [(.int r37)]))
  try clear X36 e36 st37 N36 N37q
  refine own_st (fun t k => XS.ifNo X37.here hx rfl (hb hby at_330) rfl ((if0 _ _).trans (feq (own_B.ne0 hr37 (by rw [hys]; exact own_k7 Bm hr23) : ¬ (r37 = (0 : Int32)))).1) k) ?_
  show own_Go p e below K (T37.setTop (mkF m 333 #[.val (.int p1), .val (.int p2), .val (.int p3), .val (.long q4), .second, .val (.int mm), .val (.int ua), .val (.int ul), .val (.ref b1), .val (.int (1 : Int32))] []))
  refine own_st (fun t k => XS.iconst X37.here hx rfl (hb hby at_333) k) ?_
  show own_Go p e below K (T37.setTop (mkF m 334 #[.val (.int p1), .val (.int p2), .val (.int p3), .val (.long q4), .second, .val (.int mm), .val (.int ua), .val (.int ul), .val (.ref b1), .val (.int (1 : Int32))] [(.int (1 : Int32))]))
  refine own_st (fun t k => XS.goto X37.here hx rfl (pc0 := 334) (pc' := 338) rfl (hb hby at_334) (by decide) (by decide) k) ?_
  show own_Go p e below K (T37.setTop (mkF m 338 #[.val (.int p1), .val (.int p2), .val (.int p3), .val (.long q4), .second, .val (.int mm), .val (.int ua), .val (.int ul), .val (.ref b1), .val (.int (1 : Int32))] [(.int (1 : Int32))]))
  refine own_st (fun t k => XS.istore X37.here hx rfl (hb hby at_338) rfl (l' := #[.val (.int p1), .val (.int p2), .val (.int p3), .val (.long q4), .second, .val (.int mm), .val (.int ua), .val (.int ul), .val (.ref b1), .val (.int (1 : Int32))]) rfl k) ?_
  show own_Go p e below K (T37.setTop (mkF m 340 #[.val (.int p1), .val (.int p2), .val (.int p3), .val (.long q4), .second, .val (.int mm), .val (.int ua), .val (.int ul), .val (.ref b1), .val (.int (1 : Int32))] []))
  refine own_st (fun t k => XS.iload X37.here hx rfl (hb hby at_340) rfl k) ?_
  show own_Go p e below K (T37.setTop (mkF m 342 #[.val (.int p1), .val (.int p2), .val (.int p3), .val (.long q4), .second, .val (.int mm), .val (.int ua), .val (.int ul), .val (.ref b1), .val (.int (1 : Int32))] [(.int (1 : Int32))]))
  obtain ⟨fs, hr, hrun, hended, hW, hsame⟩ := X37.leave (v := some (.int (nar .boolean (1 : Int32)))) (fun h => by rw [Bd.returns] at h; cases h)
  refine ⟨_, retN X37 hx (t := .boolean) Bd.returns (by simp) (hb hby at_342) hr, fin _ _ _ hrun hended ?_ ⟨⟨_, rfl⟩, hW, hsame.mono (by decide) (by decide)⟩⟩
  show Q0 Z p1 p2 p3 q4 h0 n0 _ T37.heap _
  rw [e37]
  exact ⟨rfl, N37⟩
set_option maxRecDepth 65536 in
set_option maxHeartbeats 40000000 in
theorem comes_1 {Post : Tables → Env → Array Value → State → Outcome → State → Prop} (hpost : ∀ tb e args s v u, (limb_1_1.after args s (.returned v) u = true ∧ limb_1_2.after args s (.returned v) u = true ∧ True) → FrameEnd s (.returned v) u (Jvm.fieldLocs frame_1_writes args s ++ Jvm.arrayLocs frame_1_arrays args s ++ Jvm.staticLocs frame_1_statics s) 16 128 → Post tb e args s (.returned v) u) :
    ArmFor flags0 classFile x code maxLocals ret World_1 tables_1 room_1 Calls_1 rest_1 Pre_1 Post := by
  intro l hfl _ _ p e ha hc hk s m args below hf hA hF happ hP
  obtain ⟨hcalls, hrest, hpre⟩ := hP
  obtain ⟨-, -, -, hnamed, -, -, -, hat⟩ := (Spec.applies_iff hf).mp happ
  obtain ⟨hg, hn⟩ := and_e (Cond.before_iff.mp (show (Jvm.Cond.and given_1 narrow_1).before args s = true from hpre))
  obtain ⟨g1, g2⟩ := and_e hg
  obtain ⟨g3, g4⟩ := and_e g2
  obtain ⟨g5, g6⟩ := and_e g4
  obtain ⟨g7, g8⟩ := and_e g6
  obtain ⟨w0, w1, w2, w3, rfl⟩ : ∃ w0 w1 w2 w3 : Value, args = #[w0, w1, w2, w3] := by
    have hs : args.size = 4 := by simpa [Cond.value, given_1] using g1
    obtain ⟨L⟩ := args
    match L, hs with
    | [w0, w1, w2, w3], _ => exact ⟨w0, w1, w2, w3, rfl⟩
  have hw := fun d (hd : d ∈ tables_1) => atoms_spec (ws := Jvm.Cond.code x code maxLocals ret :: tables_1) hat d (List.mem_cons_of_mem _ hd)
  have hfit : Fit s := fun {y c} hc i hi => by
    obtain ⟨ha, rfl⟩ := Array.getElem?_eq_some_iff.mp hc
    have q := List.all_eq_true.mp ((Array.all_eq_true_iff_forall_mem.mp hF) _ (Array.getElem_mem ha)) i (List.mem_range.mpr hi)
    simpa [Array.getElem?_eq_getElem hi] using q
  obtain ⟨i0, ei0⟩ := is_v g3
  obtain rfl : w0 = (.int i0) := Option.some.inj ei0
  obtain ⟨i1, ei1⟩ := is_v g5
  obtain rfl : w1 = (.int i1) := Option.some.inj ei1
  obtain ⟨i2, ei2⟩ := is_v g7
  obtain rfl : w2 = (.int i2) := Option.some.inj ei2
  obtain ⟨i3, ei3⟩ := isL_v g8
  obtain rfl : w3 = (.long i3) := Option.some.inj ei3
  obtain ⟨n, o, h1, h2, h3, _, L, rfl, ⟨rfl, N⟩, hq⟩ := rm0 l s _ hw tables_1 i0 i1 i2 i3 s.heap s.heap.size (Nat.le_refl _) p e ha hc hk s m _ below hf ((Spec.applies_iff_loose hf).mp happ).1 ⟨rfl, State.Warmed39.refl s, rfl⟩ trivial
  refine ⟨n, _, h1, h2, h3, hpost _ _ _ _ _ _ ⟨Cond.after_iff.mpr rfl, Cond.after_iff.mpr (eq_i res_at (Term.int_eval (1)) rfl), trivial⟩ ⟨hq.1, hq.2.1, (hq.2.2.sift fun y hy => Or.inr (N y hy)).mono (by decide) (by decide)⟩⟩
theorem main_1_1 : Claimed_1_1 := comes_1 fun _ _ _ _ _ _ h hF => ⟨h.1, hF⟩
theorem main_1_2 : Claimed_1_2 := comes_1 fun _ _ _ _ _ _ h hF => ⟨h.2.1, hF⟩
end Jvm.Pilot.@@N@@
namespace Jvm.Pilot.@@N@@
open Jvm Jvm.ClassFile Sem Op Lib Jvm.Free Jvm.Stand Jvm.Pilot.@@N@@.Jvm.D
/-! MADE BY PROGRAM (witnessworld.py) out of the Statement's table words and the real class files: 9 classes; the members and pool entries that the words name. The judged class is class 1, her method 4. -/
namespace start1
open Jvm.ClassFile
def u (s : String) : CpInfo := .utf8 (stringToUtf16 s)
/-- a pool by its gaps: so many unusable entries, then the entry; so many at the end -/
def gap : Nat → List CpInfo → List CpInfo
  | 0, r => r
  | n + 1, r => .unusable :: gap n r
def poolList (es : List (Nat × CpInfo)) (last : Nat) : List CpInfo := es.foldr (fun e r => gap e.1 (e.2 :: r)) (gap last [])
def pool (es : List (Nat × CpInfo)) (last : Nat) : Array CpInfo := ⟨poolList es last⟩
def fileOf (pool : Array CpInfo) (this : Nat) (attrs : Array Attribute := #[]) (ms : Array MethodInfo := #[]) (fl : Nat := 33) (sup : Nat := 0) (ifs : Array Nat := #[]) (fds : Array FieldInfo := #[]) : ClassFile where
  minorVersion := 0
  majorVersion := 65
  constantPool := pool
  accessFlags := fl
  thisClass := this
  superClass := sup
  interfaces := ifs
  fields := fds
  methods := ms
  attributes := attrs
def plain (name : String) (sup : Option ClassId) : Class where
  name := name
  kind := .ordinary
  loader := none
  accessFlags := 33
  super := sup
  interfaces := #[]
  cf := none
  fields := #[]
  methods := #[]
  instanceTypes := #[]
  staticTypes := #[]
  resolved := #[]
  callSites := []
  init := .initialized
  statics := none
  mirror := none

def pool0 : Array CpInfo := pool [(5, u "<init>"), (0, u "()V"), (1, .class_ 10), (1, u "java/lang/Object")] 113

def k0m0 : Method := { name := "<init>", desc := "()V", sig := { parameters := [], returnType := none }, accessFlags := 1, code := none }
/-- java/lang/Object -/
def k0 : Class := { plain "java/lang/Object" none with
  accessFlags := 33
  interfaces := #[]
  cf := some (fileOf pool0 8 #[] #[{ accessFlags := 1, nameIndex := 5, descriptorIndex := 6, attributes := #[] }] 33 0 #[] #[])
  fields := #[]
  methods := #[k0m0]
  instanceTypes := #[]
  staticTypes := #[]
  resolved := Array.replicate 124 none
  statics := none }

def pool1 : Array CpInfo := pool [(2, .class_ 4), (1, u "java/lang/Object"), (0, u "<init>"), (0, u "()V"), (0, .methodref 8 9), (0, .class_ 10), (0, .nameAndType 11 12), (0, u "com/example/micrologue/micrologue/BytecodeWriteHeaderPinLaw"), (0, u "before"), (0, u "(JI)B"), (0, .integer 2147483647), (0, .integer 65535), (0, .methodref 16 17), (0, .class_ 18), (0, .nameAndType 19 20), (0, u "com/example/micrologue/micrologue/Bytecode"), (0, u "writeHeader"), (0, u "([BIII)V"), (0, .methodref 8 22), (0, .nameAndType 23 24), (0, u "read16"), (0, u "([BI)I"), (0, .methodref 8 26), (0, .nameAndType 27 28), (0, u "kept"), (0, u "([BIIJ)Z"), (3, u "law"), (0, u "(IIIJ)Z")] 4

def k1m0 : Method := { name := "<init>", desc := "()V", sig := { parameters := [], returnType := none }, accessFlags := 2, code := none }
def k1c1 : Code := { maxStack := 4, maxLocals := 3, code := method_2_code, exceptionTable := #[], attributes := #[] }
def k1m1 : Method := { name := "before", desc := "(JI)B", sig := { parameters := [.long, .int], returnType := some .byte }, accessFlags := 10, code := some k1c1 }
def k1c2 : Code := { maxStack := 4, maxLocals := 5, code := method_3_code, exceptionTable := #[], attributes := #[] }
def k1m2 : Method := { name := "kept", desc := "([BIIJ)Z", sig := { parameters := [(.array .byte), .int, .int, .long], returnType := some .boolean }, accessFlags := 10, code := some k1c2 }
def k1c3 : Code := { maxStack := 4, maxLocals := 2, code := method_4_code, exceptionTable := #[], attributes := #[] }
def k1m3 : Method := { name := "read16", desc := "([BI)I", sig := { parameters := [(.array .byte), .int], returnType := some .int }, accessFlags := 10, code := some k1c3 }
def k1c4 : Code := { maxStack := 5, maxLocals := 10, code := code, exceptionTable := #[], attributes := #[] }
def k1m4 : Method := { name := "law", desc := "(IIIJ)Z", sig := { parameters := [.int, .int, .int, .long], returnType := some .boolean }, accessFlags := 9, code := some k1c4 }
/-- com/example/micrologue/micrologue/BytecodeWriteHeaderPinLaw -/
def k1 : Class := { plain "com/example/micrologue/micrologue/BytecodeWriteHeaderPinLaw" (some 0) with
  accessFlags := 49
  interfaces := #[]
  cf := some (fileOf pool1 8 #[] #[{ accessFlags := 2, nameIndex := 5, descriptorIndex := 6, attributes := #[] }, { accessFlags := 10, nameIndex := 11, descriptorIndex := 12, attributes := #[] }, { accessFlags := 10, nameIndex := 27, descriptorIndex := 28, attributes := #[] }, { accessFlags := 10, nameIndex := 23, descriptorIndex := 24, attributes := #[] }, { accessFlags := 9, nameIndex := 32, descriptorIndex := 33, attributes := #[] }] 49 2 #[] #[])
  fields := #[]
  methods := #[k1m0, k1m1, k1m2, k1m3, k1m4]
  instanceTypes := #[]
  staticTypes := #[]
  resolved := Array.replicate 38 none
  statics := none }

def pool2 : Array CpInfo := pool [(1, .class_ 2), (0, u "com/example/micrologue/micrologue/Bytecode"), (1, .class_ 6), (1, u "com/example/micrologue/micrologue/Bytecode$Format"), (1, u "Lcom/example/micrologue/micrologue/Bytecode$Format;"), (5, .class_ 16), (1, u "java/lang/Object"), (3, u "format"), (2, u "file"), (0, u "Ljava/lang/String;"), (2, u "mainIndex"), (0, u "I"), (2, u "mainArguments"), (2, u "methodArea"), (0, u "[B"), (2, u "pool"), (0, u "[I"), (51, u "MAIN"), (0, u "Ljava/util/regex/Pattern;"), (10, u "METHOD_AREA"), (26, u "POOL"), (51, .class_ 183), (0, u "com/example/micrologue/micrologue/Bytecode$Blocks"), (150, u "WORD"), (33, .class_ 369), (0, u "com/example/micrologue/micrologue/Bytecode$Layout"), (91, u "COUNT_BYTES"), (2, u "HEADER"), (1, u "BYTES_A_LINE"), (1, u "MAGIC"), (0, u "POOL_BLOCK"), (0, u "METHOD_AREA_BLOCK"), (0, u "POOL_ORIGIN"), (0, u "METHOD_AREA_ORIGIN"), (1, u "BINARY_STACK"), (0, u "BINARY_LOCALS"), (0, u "SAVED_WORDS"), (10, u "writeHeader"), (0, u "([BIII)V")] 74

def k2c0 : Code := { maxStack := 4, maxLocals := 4, code := prog_10_method_8_code, exceptionTable := #[], attributes := #[] }
def k2m0 : Method := { name := "writeHeader", desc := "([BIII)V", sig := { parameters := [(.array .byte), .int, .int, .int], returnType := none }, accessFlags := 8, code := some k2c0 }
/-- com/example/micrologue/micrologue/Bytecode -/
def k2 : Class := { plain "com/example/micrologue/micrologue/Bytecode" (some 0) with
  accessFlags := 49
  interfaces := #[]
  cf := some (fileOf pool2 1 #[.nestMembers #[182, 4, 368]] #[{ accessFlags := 8, nameIndex := 487, descriptorIndex := 488, attributes := #[] }] 49 14 #[] #[{ accessFlags := 26, nameIndex := 91, descriptorIndex := 92, attributes := #[] }, { accessFlags := 26, nameIndex := 103, descriptorIndex := 92, attributes := #[] }, { accessFlags := 26, nameIndex := 130, descriptorIndex := 92, attributes := #[] }, { accessFlags := 26, nameIndex := 334, descriptorIndex := 92, attributes := #[] }, { accessFlags := 26, nameIndex := 461, descriptorIndex := 28, attributes := #[] }, { accessFlags := 24, nameIndex := 464, descriptorIndex := 28, attributes := #[] }, { accessFlags := 26, nameIndex := 466, descriptorIndex := 28, attributes := #[] }, { accessFlags := 26, nameIndex := 468, descriptorIndex := 28, attributes := #[] }, { accessFlags := 26, nameIndex := 469, descriptorIndex := 24, attributes := #[] }, { accessFlags := 26, nameIndex := 470, descriptorIndex := 24, attributes := #[] }, { accessFlags := 26, nameIndex := 471, descriptorIndex := 28, attributes := #[] }, { accessFlags := 26, nameIndex := 472, descriptorIndex := 28, attributes := #[] }, { accessFlags := 26, nameIndex := 474, descriptorIndex := 28, attributes := #[] }, { accessFlags := 26, nameIndex := 475, descriptorIndex := 28, attributes := #[] }, { accessFlags := 26, nameIndex := 476, descriptorIndex := 28, attributes := #[] }, { accessFlags := 18, nameIndex := 20, descriptorIndex := 8, attributes := #[] }, { accessFlags := 18, nameIndex := 23, descriptorIndex := 24, attributes := #[] }, { accessFlags := 18, nameIndex := 27, descriptorIndex := 28, attributes := #[] }, { accessFlags := 18, nameIndex := 31, descriptorIndex := 28, attributes := #[] }, { accessFlags := 18, nameIndex := 34, descriptorIndex := 35, attributes := #[] }, { accessFlags := 18, nameIndex := 38, descriptorIndex := 39, attributes := #[] }])
  fields := #[{ name := "MAIN", type := (.object "java/util/regex/Pattern"), accessFlags := 26, slot := 0, constantValue := 0 }, { name := "METHOD_AREA", type := (.object "java/util/regex/Pattern"), accessFlags := 26, slot := 1, constantValue := 0 }, { name := "POOL", type := (.object "java/util/regex/Pattern"), accessFlags := 26, slot := 2, constantValue := 0 }, { name := "WORD", type := (.object "java/util/regex/Pattern"), accessFlags := 26, slot := 3, constantValue := 0 }, { name := "COUNT_BYTES", type := .int, accessFlags := 26, slot := 4, constantValue := 0 }, { name := "HEADER", type := .int, accessFlags := 24, slot := 5, constantValue := 0 }, { name := "BYTES_A_LINE", type := .int, accessFlags := 26, slot := 6, constantValue := 0 }, { name := "MAGIC", type := .int, accessFlags := 26, slot := 7, constantValue := 0 }, { name := "POOL_BLOCK", type := (.object "java/lang/String"), accessFlags := 26, slot := 8, constantValue := 0 }, { name := "METHOD_AREA_BLOCK", type := (.object "java/lang/String"), accessFlags := 26, slot := 9, constantValue := 0 }, { name := "POOL_ORIGIN", type := .int, accessFlags := 26, slot := 10, constantValue := 0 }, { name := "METHOD_AREA_ORIGIN", type := .int, accessFlags := 26, slot := 11, constantValue := 0 }, { name := "BINARY_STACK", type := .int, accessFlags := 26, slot := 12, constantValue := 0 }, { name := "BINARY_LOCALS", type := .int, accessFlags := 26, slot := 13, constantValue := 0 }, { name := "SAVED_WORDS", type := .int, accessFlags := 26, slot := 14, constantValue := 0 }, { name := "format", type := (.object "com/example/micrologue/micrologue/Bytecode$Format"), accessFlags := 18, slot := 0, constantValue := 0 }, { name := "file", type := (.object "java/lang/String"), accessFlags := 18, slot := 1, constantValue := 0 }, { name := "mainIndex", type := .int, accessFlags := 18, slot := 2, constantValue := 0 }, { name := "mainArguments", type := .int, accessFlags := 18, slot := 3, constantValue := 0 }, { name := "methodArea", type := (.array .byte), accessFlags := 18, slot := 4, constantValue := 0 }, { name := "pool", type := (.array .int), accessFlags := 18, slot := 5, constantValue := 0 }]
  methods := #[k2m0]
  instanceTypes := #[(.object "com/example/micrologue/micrologue/Bytecode$Format"), (.object "java/lang/String"), .int, .int, (.array .byte), (.array .int)]
  staticTypes := #[(.object "java/util/regex/Pattern"), (.object "java/util/regex/Pattern"), (.object "java/util/regex/Pattern"), (.object "java/util/regex/Pattern"), .int, .int, .int, .int, (.object "java/lang/String"), (.object "java/lang/String"), .int, .int, .int, .int, .int]
  resolved := Array.replicate 563 none
  statics := none }

def pool3 : Array CpInfo := pool [(1, u "java/lang/Cloneable"), (0, .class_ 1), (0, u "java/lang/Object"), (0, .class_ 3)] 3

/-- java/lang/Cloneable -/
def k3 : Class := { plain "java/lang/Cloneable" (some 0) with
  accessFlags := 1537
  interfaces := #[]
  cf := some (fileOf pool3 2 #[] #[] 1537 4 #[] #[])
  fields := #[]
  methods := #[]
  instanceTypes := #[]
  staticTypes := #[]
  resolved := Array.replicate 8 none
  statics := none }

def pool4 : Array CpInfo := pool [(1, u "java/io/Serializable"), (0, .class_ 1), (0, u "java/lang/Object"), (0, .class_ 3)] 3

/-- java/io/Serializable -/
def k4 : Class := { plain "java/io/Serializable" (some 0) with
  accessFlags := 1537
  interfaces := #[]
  cf := some (fileOf pool4 2 #[] #[] 1537 4 #[] #[])
  fields := #[]
  methods := #[]
  instanceTypes := #[]
  staticTypes := #[]
  resolved := Array.replicate 8 none
  statics := none }

/-- the primitive byte -/
def k5 : Class := { plain "byte" none with kind := .primitive 'B', accessFlags := 0x411 }
/-- [B -/
def k6 : Class := { plain "[B" (some 0) with kind := .array 5 .byte, interfaces := #[3, 4], accessFlags := 1041 }

/-- the primitive int -/
def k7 : Class := { plain "int" none with kind := .primitive 'I', accessFlags := 0x411 }
/-- [I -/
def k8 : Class := { plain "[I" (some 0) with kind := .array 7 .int, interfaces := #[3, 4], accessFlags := 1041 }

def heap : Heap := #[]
def classes : Array Class := #[k0, k1, k2, k3, k4, k5, k6, k7, k8]
def interned : List (Array UInt16 × Addr) := []
def slotsUsed : Nat := 0
def theMethod : MethodId := ⟨1, 4⟩
def args0 : Array Value := #[.int 1, .int 2, .int 3, .long 4]
def aboutOver (below : List Frame) : State where
  vm := { classes := classes, interned := interned.toArray }
  heap := heap
  slotsUsed := slotsUsed
  threads := #[{ frames := .invoking theMethod args0 :: below }]
def below0 : List Frame := [.native { method := ⟨0, 0⟩, args := #[] }]
def about1 : State := aboutOver below0
def p0 : Program := .bare "" "" ""
def e0 : Env := launch0.env 0 0 0
theorem w_frames : about1.frames = Frame.invoking theMethod args0 :: below0 := rfl
set_option maxRecDepth 65536 in
theorem w_args : argsFit about1.vm theMethod args0 = true := by decide +kernel
set_option maxRecDepth 65536 in
theorem w_heap : heapFits about1 = true := by decide +kernel
set_option maxRecDepth 65536 in
theorem w_runnable : about1.curStatus? = some .runnable := by decide +kernel
set_option maxRecDepth 65536 in
theorem w_alone : about1.alone = true := by decide +kernel
set_option maxRecDepth 65536 in
theorem w_named : about1.methodNamed? x = some theMethod := by decide +kernel
set_option maxRecDepth 65536 in
theorem w_hears : about1.hears theMethod below0 = true := by decide +kernel
set_option maxRecDepth 65536 in
theorem w_ripe : about1.ripe theMethod args0 below0 = true := by decide +kernel
theorem w_running : about1.status = .running := rfl
set_option maxRecDepth 65536 in
theorem w_room : about1.hasRoom e0.platform room_1 = true :=
  launch0.hasRoom_least _ room_1 (by decide +kernel) (by decide +kernel) (by decide +kernel) (by decide +kernel) (by decide +kernel) (by decide +kernel)
theorem allAtoms_all (ts : List Jvm.Cond) (a : Array Jvm.Value) (st : Jvm.State) : (allAtoms ts).before a st = ts.all (fun c => c.before a st) := by
  induction ts with
  | nil => rfl
  | cons c t ih =>
    show (Jvm.Cond.and c (allAtoms t)).before a st = _
    rw [Jvm.Cond.before_and, ih, List.all_cons]
def words1 : List Jvm.Cond := Jvm.Cond.code x code maxLocals ret :: tables_1
/-- a 'code' word, met by the world's own term for the bytes: nothing is compared byte by byte -/
theorem code_word {y : MethodName} {bytes : ByteArray} {mx : Nat} {rt : Option FieldType} {a : Array Value} {s : State} {m : MethodId} {meth : Method} {c : Code} (h1 : s.methodNamed? y = some m) (h2 : s.vm.method? m = some meth) (h3 : meth.code = some c) (h4 : c.code = bytes)
    (h5 : (c.maxLocals == mx && c.exceptionTable.isEmpty && decide (c.maxStack ≤ mostOperands) && decide (meth.sig.returnType = rt) && !meth.locks && decide (parseMethodDescriptor y.desc = some meth.sig)) = true) : (Jvm.Cond.code y bytes mx rt).before a s = true := by
  simp only [Bool.and_eq_true, beq_iff_eq, Bool.not_eq_true', decide_eq_true_eq] at h5
  obtain ⟨⟨⟨⟨⟨g1, g2⟩, g3⟩, g4⟩, g5⟩, g6⟩ := h5
  simp [Cond.before, Cond.holds, Cond.value, h1, h2, h3, h4, g1, g2, g3, g4, g5, g6]
def isCode : Jvm.Cond → Bool
  | .code _ _ _ _ => true
  | _ => false
theorem all_split {L : List Jvm.Cond} {P : Jvm.Cond → Bool} (h1 : L.all (fun c => isCode c || P c) = true) (h2 : ∀ c ∈ L.filter isCode, P c = true) : L.all P = true := by
  refine List.all_eq_true.mpr fun c hc => ?_
  have h := List.all_eq_true.mp h1 c hc
  rcases Bool.eq_false_or_eq_true (isCode c) with hi | hi
  · exact h2 c (List.mem_filter.mpr ⟨hc, hi⟩)
  · simpa [hi] using h
set_option maxRecDepth 65536 in
theorem w_c0 : (Jvm.Cond.code x code maxLocals ret).before args0 about1 = true := code_word (m := ⟨1, 4⟩) (meth := k1m4) (c := k1c4) (by decide +kernel) rfl rfl rfl (by decide +kernel)
set_option maxRecDepth 65536 in
theorem w_c1 : (Jvm.Cond.code ({ cls := "com/example/micrologue/micrologue/BytecodeWriteHeaderPinLaw", name := "before", desc := "(JI)B" } : Jvm.MethodName) method_2_code (3 : Nat) (Option.some Jvm.ClassFile.FieldType.byte)).before args0 about1 = true := code_word (m := ⟨1, 1⟩) (meth := k1m1) (c := k1c1) (by decide +kernel) rfl rfl rfl (by decide +kernel)
set_option maxRecDepth 65536 in
theorem w_c2 : (Jvm.Cond.code ({ cls := "com/example/micrologue/micrologue/Bytecode", name := "writeHeader", desc := "([BIII)V" } : Jvm.MethodName) prog_10_method_8_code (4 : Nat) (Option.none : Option Jvm.ClassFile.FieldType)).before args0 about1 = true := code_word (m := ⟨2, 0⟩) (meth := k2m0) (c := k2c0) (by decide +kernel) rfl rfl rfl (by decide +kernel)
set_option maxRecDepth 65536 in
theorem w_c3 : (Jvm.Cond.code ({ cls := "com/example/micrologue/micrologue/BytecodeWriteHeaderPinLaw", name := "read16", desc := "([BI)I" } : Jvm.MethodName) method_4_code (2 : Nat) (Option.some Jvm.ClassFile.FieldType.int)).before args0 about1 = true := code_word (m := ⟨1, 3⟩) (meth := k1m3) (c := k1c3) (by decide +kernel) rfl rfl rfl (by decide +kernel)
set_option maxRecDepth 65536 in
theorem w_c4 : (Jvm.Cond.code ({ cls := "com/example/micrologue/micrologue/BytecodeWriteHeaderPinLaw", name := "kept", desc := "([BIIJ)Z" } : Jvm.MethodName) method_3_code (5 : Nat) (Option.some Jvm.ClassFile.FieldType.boolean)).before args0 about1 = true := code_word (m := ⟨1, 2⟩) (meth := k1m2) (c := k1c2) (by decide +kernel) rfl rfl rfl (by decide +kernel)
def codes1 : List Jvm.Cond := [Jvm.Cond.code x code maxLocals ret, Jvm.Cond.code ({ cls := "com/example/micrologue/micrologue/BytecodeWriteHeaderPinLaw", name := "before", desc := "(JI)B" } : Jvm.MethodName) method_2_code (3 : Nat) (Option.some Jvm.ClassFile.FieldType.byte), Jvm.Cond.code ({ cls := "com/example/micrologue/micrologue/Bytecode", name := "writeHeader", desc := "([BIII)V" } : Jvm.MethodName) prog_10_method_8_code (4 : Nat) (Option.none : Option Jvm.ClassFile.FieldType), Jvm.Cond.code ({ cls := "com/example/micrologue/micrologue/BytecodeWriteHeaderPinLaw", name := "read16", desc := "([BI)I" } : Jvm.MethodName) method_4_code (2 : Nat) (Option.some Jvm.ClassFile.FieldType.int), Jvm.Cond.code ({ cls := "com/example/micrologue/micrologue/BytecodeWriteHeaderPinLaw", name := "kept", desc := "([BIIJ)Z" } : Jvm.MethodName) method_3_code (5 : Nat) (Option.some Jvm.ClassFile.FieldType.boolean)]
set_option maxRecDepth 65536 in
theorem codes_eq : words1.filter isCode = codes1 := rfl
theorem w_codes : ∀ c ∈ words1.filter isCode, c.before args0 about1 = true := by
  rw [codes_eq]
  intro c hc
  simp only [codes1, List.mem_cons, List.not_mem_nil, or_false] at hc
  rcases hc with rfl | rfl | rfl | rfl | rfl
  · exact w_c0
  · exact w_c1
  · exact w_c2
  · exact w_c3
  · exact w_c4
set_option maxRecDepth 65536 in
theorem w_t1 : words1.all (fun c => isCode c || c.before args0 about1) = true := by decide +kernel
theorem w_tables : (allAtoms (Jvm.Cond.code x code maxLocals ret :: tables_1)).before args0 about1 = true := by
  rw [allAtoms_all]
  show words1.all (fun c => c.before args0 about1) = true
  refine all_split ?_ w_codes
  rw [w_t1]
set_option maxRecDepth 65536 in
theorem w_case : (Jvm.Cond.and given_1 narrow_1).before args0 about1 = true := by decide +kernel
theorem w_applies : (headSpec (Jvm.Cond.code x code maxLocals ret :: tables_1) room_1).applies x e0.platform about1 = true :=
  (Spec.applies_iff w_frames).mpr ⟨w_running, w_runnable, w_alone, w_named, w_hears, w_ripe, w_room, w_tables⟩
theorem atStart : AtStart classFile x code maxLocals ret World_1 tables_1 room_1 Calls_1 rest_1 Pre_1 launch0 p0 e0 about1 theMethod args0 below0 :=
  ⟨lists_1, trivial, launch0.admits_env _ _ _, launch0.least_env, fairChoices_fair.cas, fairChoices_fair.clock, w_frames, w_args, w_heap, w_applies, trivial, trivial, w_case⟩
end start1
theorem witness_1 : WitnessClaimed_1 := ⟨start1.p0, start1.e0, start1.about1, start1.theMethod, start1.args0, start1.below0, start1.atStart⟩
end Jvm.Pilot.@@N@@
