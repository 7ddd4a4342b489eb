import JvmDerived
import JvmDerived.Pilot.@@N@@Statement
import JvmDerived.Pilot.@@N@@Code
set_option linter.unusedVariables false
set_option maxRecDepth 65536
set_option maxHeartbeats 40000000
set_option linter.unusedSimpArgs false
@@BLOCK:LamKit.lean.txt@@
namespace Jvm.RoadKit
open Sem ClassFile Op Lib Jvm.Stand Jvm.Free Jvm.LawKit
section New
variable {p : Program} {l : Launch} {e : Env} {R : Room} {s : State} {m : MethodId} {args : Array Value} {below : List Frame} {meth : Method} {c : Code} {T : State} {locs : List Loc} {cells slots : Nat}
theorem retI (X : Stand p l e R s m args below meth c T locs cells slots) (hx : p.tables.exec = Jvm.exec) {pc : Nat} {Ls : Array Slot} {z : Int32} {rest : List Value} (hret : meth.sig.returnType = some .int) (hd : decode c.code pc = .ok (.ireturn, 1)) {fs : List Frame}
    (hl : ∀ (f : JFrame) (acts : List Action), f.method = m → f.locked = none → f.entered = [] → (doReturn e (T.setTop f) acts (some (.int z))).1 = T.setFrames fs) : Steps p.tables e below (T.setTop (mkF m pc Ls (.int z :: rest))) (T.setFrames fs) := by
  have hm' : T.vm.method? m = some meth := X.method'
  have hn : narrow .int (.int z) = .int z := rfl
  show Steps p.tables e below (T.setTop { method := m, pc := pc, locals := Ls, stack := _ :: rest, locked := none }) _
  jvm_step X.here [X.here.top, hx, hd, hm', hret, hn]
  first | (intro acts; rw [hl _ acts rfl rfl rfl]) | rw [hl _ _ rfl rfl rfl]
  exact Steps.refl _
end New
end Jvm.RoadKit
namespace Jvm.Pilot.@@N@@
open Jvm Jvm.ClassFile Sem Op Lib Jvm.Free Jvm.Stand Jvm.LawKit Jvm.RoadKit Bundle Jvm.Pilot.@@N@@.Jvm.D
/-- from the state T the run comes to a state of which K holds -/
def own_Go (p : Program) (e : Env) (below : List Frame) (K : State → Prop) (T : State) : Prop := ∃ t, Steps p.tables e below T t ∧ K t
theorem own_st {p : Program} {e : Env} {below : List Frame} {K : State → Prop} {T T' : State} (h : ∀ t, Steps p.tables e below T' t → Steps p.tables e below T t) (g : own_Go p e below K T') : own_Go p e below K T := by
  obtain ⟨t, a, b⟩ := g; exact ⟨t, h t a, b⟩
theorem own_tr {p : Program} {e : Env} {below : List Frame} {K : State → Prop} {T T' : State} (h : Steps p.tables e below T T') (g : own_Go p e below K T') : own_Go p e below K T := by
  obtain ⟨t, a, b⟩ := g; exact ⟨t, h.trans a, b⟩
theorem own_lrem {tb : Tables} [Ours tb] {e : Env} {below : List Frame} {T target : State} {m : MethodId} {c : Code} {g : JFrame} (h : At T m c below) (hx : tb.exec = Jvm.exec) (hg : g.method = m) {x y : Int64} {rest : List Value} (hd : decode c.code g.pc = .ok (.lrem, 1)) (hs : g.stack = .long y :: .long x :: rest) (hy : y ≠ 0)
    (hr : Steps tb e below (T.setTop { g with pc := g.pc + 1, stack := .long (x % y) :: rest }) target) : Steps tb e below (T.setTop g) target := by
  have q : x - x / y * y = x % y := lrem_mod x y
  exact XS.lrem h hx hg hd hs hy (by rw [q]; exact hr)
/-- a boolean's worth: 1 where P holds, 0 where it doesn't -/
def own_B (P : Prop) (r : Int32) : Prop := (r = 1 ∧ P) ∨ (r = 0 ∧ ¬ P)
theorem own_B.yes {P : Prop} {r : Int32} (e : r = 1) (h : P) : own_B P r := Or.inl ⟨e, h⟩
theorem own_B.no {P : Prop} {r : Int32} (e : r = 0) (h : ¬ P) : own_B P r := Or.inr ⟨e, h⟩
theorem own_B.same {P Q : Prop} {r v : Int32} (a : own_B P r) (b : own_B Q v) (h : P ↔ Q) : r = v := by
  rcases a with ⟨rfl, p⟩ | ⟨rfl, p⟩ <;> rcases b with ⟨rfl, q⟩ | ⟨rfl, q⟩
  · rfl
  · exact absurd (h.mp p) q
  · exact absurd (h.mpr q) p
  · rfl
theorem own_B.one {P : Prop} {r : Int32} (a : own_B P r) (h : P) : r = 1 := by
  rcases a with ⟨rfl, p⟩ | ⟨rfl, p⟩
  · rfl
  · exact absurd h p
theorem own_B.zero {P : Prop} {r : Int32} (a : own_B P r) (h : ¬ P) : r = 0 := by
  rcases a with ⟨rfl, p⟩ | ⟨rfl, p⟩
  · exact absurd p h
  · rfl
theorem own_B.ne0 {P : Prop} {r : Int32} (a : own_B P r) (h : P) : ¬ r = 0 := by rw [a.one h]; decide
theorem own_B.holds {P : Prop} {r : Int32} (a : own_B P r) (h : ¬ r = 0) : P := by
  rcases a with ⟨rfl, p⟩ | ⟨rfl, p⟩
  · exact p
  · exact absurd rfl h
theorem own_B.fails {P : Prop} {r : Int32} (a : own_B P r) (h : r = 0) : ¬ P := by
  rcases a with ⟨rfl, p⟩ | ⟨rfl, p⟩
  · exact absurd h (by decide)
  · exact p
theorem own_atJ (ws : List Int64) (i : Nat) : (ws.map Value.long).getD i (.long (0 : Int64)) = .long (ws.getD i 0) := by
  simp only [List.getD, List.getElem?_map]; cases ws[i]? <;> rfl
theorem own_atI (ws : List Int32) (i : Nat) : (ws.map Value.int).getD i (.int (0 : Int32)) = .int (ws.getD i 0) := by
  simp only [List.getD, List.getElem?_map]; cases ws[i]? <;> rfl
theorem own_selp {Z s : State} {a0 args : Array Value} {y : MethodName} {n : Nat} (hZ : Z.Warmed39 s.vm) (wi : (Jvm.Cond.instantiable y.cls n).before a0 Z = true) (wm : (Jvm.Cond.instanceMethod y).before a0 Z = true) (wp : (Jvm.Cond.privateMethod y).before a0 Z = true) (hy : y.cls ≠ "java/lang/invoke/MethodHandle" ∧ y.cls ≠ "java/lang/invoke/VarHandle") : (Jvm.Cond.selects y.cls y y).before args s = true := by
  have w1 : (Jvm.Cond.instantiable y.cls n).before args s = true := mvT hZ wi
  obtain ⟨c, k, h1, h2, h3, h4, -⟩ := Cond.instantiable_spec w1
  have h5 : k.isInterface = false := by cases hq : k.isInterface <;> simp [hq] at h4 ⊢
  exact selects_self_of_private h1 h2 h5 (Cond.privateMethod_at (mvP hZ wp (args := args))) (mvT hZ wm) hy
theorem own_hat {T : State} {h : Heap} {a : Addr} {c : Cell} (e : T.heap = h) (q : h[a]? = some c) : T.heap[a]? = some c := by rw [e]; exact q
theorem own_nn (x : Int32) : nar .byte (nar .byte x) = nar .byte x := by
  refine Int32.toInt_inj.mp ?_
  have a := c_i2b x
  have b := c_i2b x.toInt8.toInt32
  show x.toInt8.toInt32.toInt8.toInt32.toInt = x.toInt8.toInt32.toInt
  omega
theorem own_nb (x : Int32) : nar .byte x.toInt8.toInt32 = x.toInt8.toInt32 := own_nn x
theorem own_fit {x : Int32} (h : nar .byte x = x) : fits .byte (.int x) = true := by rw [← h]; exact fits_nar_byte x
theorem own_cl {j : Int32} {i : Nat} (h : j.toInt = (i : Int)) : j.toNatClampNeg = i := by rw [Int32.toNatClampNeg, h]; rfl
theorem own_lt {a b : Int32} (h : a.toInt < b.toInt) : a < b := Int32.lt_iff_toInt_lt.mpr h
theorem own_nlt {a b : Int32} (h : b.toInt ≤ a.toInt) : ¬ a < b := fun q => absurd (Int32.lt_iff_toInt_lt.mp q) (by omega)
theorem own_ltI {a b : Int32} (h : a < b) : a.toInt < b.toInt := Int32.lt_iff_toInt_lt.mp h
theorem own_nltI {a b : Int32} (h : ¬ a < b) : b.toInt ≤ a.toInt := by have := mt Int32.lt_iff_toInt_lt.mpr h; omega
theorem own_neI {a b : Int32} (h : ¬ a = b) : ¬ a.toInt = b.toInt := fun q => h (Int32.toInt_inj.mp q)
theorem own_ltL {a b : Int64} (h : a < b) : a.toInt < b.toInt := Int64.lt_iff_toInt_lt.mp h
theorem own_nltL {a b : Int64} (h : ¬ a < b) : b.toInt ≤ a.toInt := by have := mt Int64.lt_iff_toInt_lt.mpr h; omega
theorem own_neL {a b : Int64} (h : ¬ a = b) : ¬ a.toInt = b.toInt := fun q => h (Int64.toInt_inj.mp q)
def own_sg : Lambda.Shape := (Jvm.Lambda.Shape.mk "com/example/deferline/deferline/io/KeptState$Whole" "read" (Jvm.ClassFile.MethodDescriptor.mk ([(Jvm.ClassFile.FieldType.object "com/example/deferline/deferline/io/KeptState$Reader")] : List Jvm.ClassFile.FieldType) (Option.some (Jvm.ClassFile.FieldType.object "java/lang/Object"))) ([] : List Jvm.ClassFile.FieldType) (5 : Nat) "com/example/deferline/deferline/io/KeptState$Reader" "wholeDate" (Jvm.ClassFile.MethodDescriptor.mk ([] : List Jvm.ClassFile.FieldType) (Option.some (Jvm.ClassFile.FieldType.object "java/time/LocalDate"))) false (Jvm.ClassFile.MethodDescriptor.mk ([(Jvm.ClassFile.FieldType.object "com/example/deferline/deferline/io/KeptState$Reader")] : List Jvm.ClassFile.FieldType) (Option.some (Jvm.ClassFile.FieldType.object "java/time/LocalDate"))))
def own_fb : ByteArray := ⟨#[0x2b, 0xb6, 0x00, 0x12, 0xb0]⟩
theorem own_fb0 : decode own_fb 0 = .ok (.aload_n 1, 1) := by decide +kernel
theorem own_fb1 : decode own_fb 1 = .ok (.invokevirtual 18, 3) := by decide +kernel
theorem own_fb4 : decode own_fb 4 = .ok (.areturn, 1) := by decide +kernel
abbrev own_date : MethodName := ⟨"com/example/deferline/deferline/io/KeptState$Reader", "date", "()Ljava/time/LocalDate;"⟩
abbrev own_whole : MethodName := ⟨"com/example/deferline/deferline/io/KeptState$Reader", "wholeDate", "()Ljava/time/LocalDate;"⟩
abbrev own_read : MethodName := ⟨"com/example/deferline/deferline/io/KeptState$Whole", "read", "(Lcom/example/deferline/deferline/io/KeptState$Reader;)Ljava/lang/Object;"⟩
theorem own_fok : Jvm.LamKit.fwdOK own_sg "com/example/deferline/deferline/io/KeptState$Reader" own_fb 2 (some (.object "java/lang/Object")) 18 14 = true := by decide +kernel
def own_Lam (Z : State) (fL : Addr) (cK : ClassId) : Prop := Z.lambdaAt? own_date 3 97 own_sg = some (cK, some fL)
theorem own_mvM {Z s : State} {a0 args : Array Value} {own host : String} {y : MethodName} {index : Nat} (hZ : Z.Warmed39 s.vm) (w : (Cond.methodLinkNest own index y host).before a0 Z = true) : (Cond.methodLinkNest own index y host).before args s = true := (Cond.methodLinkNest_wide hZ w :)
theorem own_site {Z s : State} {fL : Addr} {cK : ClassId} {m : MethodId} (hZ : Z.Warmed39 s.vm) (HL : own_Lam Z fL cK) (hn : s.methodNamed? own_date = some m) : ∃ (k : Class) (i0 p0 : Nat), s.vm.classes[m.cls]? = some k ∧ (k.callSites.find? fun y => y.1 == m.idx && y.2.1 == 3) = some (i0, p0, .constant fL) := by
  obtain ⟨mD, kD, cfD, i0, p0, lk, hmD, hkD, -, -, -, hfind, -, -, hl⟩ := State.lambdaAt?_spec HL
  have q := State.methodNamed?_setVm (s := Z) hZ.alike own_date
  rw [hmD] at q
  have q' : s.methodNamed? own_date = some mD := q
  have e : m = mD := Option.some.inj (hn.symm.trans q')
  subst e
  obtain ⟨k', hk', he⟩ := hZ.alike.2.2 _ _ hkD
  refine ⟨k', i0, p0, hk', ?_⟩
  rcases hl with ⟨a, cell, rfl, h2, -⟩ | ⟨-, h2, -⟩
  · cases h2; rw [he]; exact hfind
  · cases h2
theorem own_isof {Z T : State} {h : Heap} {n0 : Nat} {fL : Addr} {cK : ClassId} (HL : own_Lam Z fL cK) (O : Old Z n0 h) (e : T.heap = h) : IsOf cK T fL := by
  obtain ⟨mD, kD, cfD, i0, p0, lk, -, -, -, -, -, -, -, -, hl⟩ := State.lambdaAt?_spec HL
  rcases hl with ⟨a, cell, -, h2, -, hc, hcl, hvm, -⟩ | ⟨-, h2, -⟩
  · cases h2; exact ⟨cell, by rw [e]; exact O.2.2 _ _ hc, hcl, by rw [hvm]; rfl⟩
  · cases h2
theorem own_fnx {Z s : State} {a0 : Array Value} {fL : Addr} {cK : ClassId} (hZ : Z.Warmed39 s.vm) (HL : own_Lam Z fL cK) (hwd : (Cond.interfaceMethod own_read.cls own_read.cls own_read.name own_read.desc).before a0 Z = true) : Jvm.Free.HMW.FnX own_read cK ⟨cK, 1⟩ s := by
  obtain ⟨mD, kD, cfD, i0, p0, lk, hmD, hkD, -, -, -, -, hmade, hcan, -⟩ := State.lambdaAt?_spec HL
  obtain ⟨kD', hkD', hnameD⟩ := className_of_methodNamed hmD
  cases hkD.symm.trans hkD'
  obtain ⟨kK, tk, file, methk, ck, toy, t, nt, hkK, -, -, -, -, hmk, -, -, -, -, hfl, -⟩ := Jvm.LamKit.made_static own_fok hkD hnameD hmade
  obtain ⟨kF, methK, h1, h2, h3, h4, h5⟩ := Jvm.Free.HMW.FnX.of_site hmade hcan rfl rfl (by decide +kernel) hwd hkK hmk hfl
  obtain ⟨kF', h1', -⟩ := hZ.alike.2.2 _ _ h1
  refine ⟨kF', methK, h1', by rw [hZ.alike.method?]; exact h2, h3, h4, fun r0 r hn hr => ?_⟩
  have hn' : Z.methodNamed? own_read = some r0 := (State.methodNamed?_setVm (s := Z) hZ.alike own_read).symm.trans hn
  rw [hZ.alike.method?] at hr
  obtain ⟨g1, g2, g3⟩ := h5 r0 r hn' hr
  refine ⟨by rw [hZ.alike.assignable]; exact g1, by rw [hZ.alike.selectMethod]; exact g2, ?_⟩
  simp only [hZ.alike.superclasses, hZ.alike.declaredIn]; exact g3
theorem own_fnw {Z s : State} {a0 args : Array Value} (hZ : Z.Warmed39 s.vm) (hw : ∀ d ∈ tables_1, d.before a0 Z = true) : ∀ w ∈ Jvm.Free.Fn.fnW "com/example/deferline/deferline/io/KeptState$Reader" 155 own_read, w.before args s = true := by
  intro w hm
  simp only [Jvm.Free.Fn.fnW, List.mem_cons, List.not_mem_nil, or_false] at hm
  rcases hm with rfl | rfl | rfl
  · exact mvT hZ (hw _ (List.mem_of_getElem? (i := 166) rfl))
  · exact mvT hZ (hw _ (List.mem_of_getElem? (i := 167) rfl))
  · exact mvT hZ (hw _ (List.mem_of_getElem? (i := 168) rfl))
set_option maxHeartbeats 4000000 in
theorem own_lamBack {l : Launch} {p : Program} {e : Env} {R : Room} {below : List Frame} {s Z : State} {args a0 : Array Value} {W : Nat} {fL ra : Addr} {cK : ClassId} {h : Heap} {rm : Room} {Q : Option Value → Heap → List Loc → Prop}
    (hx : p.tables.exec = Jvm.exec) (hadm : l.admits e) (hw : ∀ d ∈ tables_1, d.before a0 Z = true)
    (hM : MetFree l own_whole (head1 [Cond.code own_whole prog_38_method_11_code 3 (some (.object "java/time/LocalDate"))] rm) (fun a U => a = #[.ref ra] ∧ Z.Warmed39 U.vm ∧ U.heap = h) (fun _ _ _ _ _ => True) (fun _ U o U' => ∃ v L, o = .returned v ∧ Q v U'.heap L ∧ FrameEnd U o U' L rm.cells rm.slots))
    (hret : ∀ v h' L, Q v h' L → ∃ w, v = some w ∧ w.isRef = true)
    (hZ : Z.Warmed39 s.vm) (HL : own_Lam Z fL cK) (E : Exa Z h ra own_whole.cls) (hf : rm.frames + 2 ≤ R.frames) (hl : W + 13 + (14 + rm.locals) ≤ R.locals) :
    BackW l R p e below s args (fun _ m' => m' = ⟨cK, 1⟩) 5 W
      (fun A a => (∃ f : Addr, a = #[.ref f, .ref ra]) ∧ A.U.heap = h ∧ A.cells + rm.cells ≤ R.cells ∧ A.slots + rm.slots ≤ R.slots)
      (fun A _ v B => ∃ L, Q v B.U.heap L ∧ B.locs = A.locs ++ L ∧ B.cells = A.cells + rm.cells ∧ B.slots = A.slots + rm.slots) := by
  have wc : (Cond.code own_whole prog_38_method_11_code 3 (some (.object "java/time/LocalDate"))).before a0 Z = true := (hw _ (List.mem_of_getElem? (i := 171) rfl))
  have wi : (Cond.instanceMethod own_whole).before a0 Z = true := (hw _ (List.mem_of_getElem? (i := 169) rfl))
  have wp : (Cond.privateMethod own_whole).before a0 Z = true := (hw _ (List.mem_of_getElem? (i := 170) rfl))
  have wn : (Cond.instantiable own_whole.cls 4).before a0 Z = true := (hw _ (List.mem_of_getElem? (i := 40) rfl))
  have wz : (Cond.initialized own_whole.cls).before a0 Z = true := (hw _ (List.mem_of_getElem? (i := 41) rfl))
  obtain ⟨mD, kD, cfD, i0, p0, lk, hmD, hkD, -, -, -, -, hmade, hcan, -⟩ := State.lambdaAt?_spec HL
  obtain ⟨kD', hkD', hnameD⟩ := className_of_methodNamed hmD
  cases hkD.symm.trans hkD'
  obtain ⟨kK, tk, file, methk, ck, toy, t, nt, hkK, hpn, hfile, hidx, -, hmk, hck, hbytes, hml, hlk, -, hretk, htoy, htk, hlook, ⟨kr, hkr, hrr⟩, ⟨kc, hkc, hcr⟩⟩ := Jvm.LamKit.made_static own_fok hkD hnameD hmade
  cases hkK.symm.trans hkr
  cases hkK.symm.trans hkc
  obtain ⟨tN, hnN⟩ := Cond.code_named wc
  have et : t = tN := Except.ok.inj (hlook.symm.trans (Jvm.Free.Fw.look_of_named hnN (by decide) _ _ htoy htk))
  subst et
  obtain ⟨cI, kI, i1, i2, i3, i4, -⟩ := Cond.instantiable_spec wn
  cases (show Z.vm.findClass own_whole.cls = some toy from htoy).symm.trans i1
  cases htk.symm.trans i2
  have hni : tk.isInterface = false := by cases hq : tk.isInterface <;> simp [hq] at i4 ⊢
  have T := Jvm.Free.Fw.cap0p1VR (l := l) (p := p) (e := e) hx (Rm := R) (R' := { frames := rm.frames + 1, cells := rm.cells, slots := rm.slots, locals := 14 + rm.locals }) (below' := below) (s' := s) (sargs' := args) (cK := cK) (mi := 18) (cB := toy) (y := own_whole) (methk := methk) (ck := ck) (len := 5) (W := W)
    (by rw [hbytes]; exact own_fb0) (by rw [hbytes]; exact own_fb1) (by rw [hbytes]; exact own_fb4)
    (fun U hW => by
      have hU : Z.Warmed39 U.vm := wtrans hZ hW
      obtain ⟨kK', q1, q2, -, q4, -⟩ := hU.2.2.2 _ _ hkK
      obtain ⟨tk', u1, u2⟩ := hU.alike.2.2 _ _ htk
      have r1 : kK'.resolved[18]? = some (some (.method t)) := by rcases q4 18 with z | ⟨z, -⟩; rw [z]; exact hrr; rw [hrr] at z; cases z
      have r2 : kK'.resolved[14]? = some (some (.cls toy)) := by rcases q4 14 with z | ⟨z, -⟩; rw [z]; exact hcr; rw [hcr] at z; cases z
      have hnU : U.methodNamed? own_whole = some t := (State.methodNamed?_setVm (s := Z) hU.alike own_whole).trans hnN
      exact ⟨⟨by rw [hU.alike.method?]; exact hmk, hck, hlk, State.plainMethod.of_name (fun k' hk' => by cases q1.symm.trans hk'; rw [show kK'.name = kK.name by rw [q2]]; exact hpn), hml, hretk⟩,
        Jvm.Free.Fw.VirtualAt.of_made hadm (y := own_whole) (ci := 14) (nt := nt) q1 (by rw [q2]; exact hfile) hidx ⟨kK', q1, r1⟩ ⟨kK', q1, r2⟩ (by rw [hU.alike.findClass]; exact htoy) u1 (by rw [u2]; exact hni) hnU (by decide) (mvT hU wc) (mvT hU wi) (own_selp hU wn wi wp (by decide)) (sig := ⟨[], some (.object "java/time/LocalDate")⟩) (by decide +kernel) rfl⟩)
    (PreT := fun A a => a = #[.ref ra] ∧ A.U.heap = h ∧ A.cells + rm.cells ≤ rm.cells ∧ A.slots + rm.slots ≤ rm.slots) (PostT := fun A _ v B => ∃ L, Q v B.U.heap L ∧ B.locs = A.locs ++ L ∧ B.cells = A.cells + rm.cells ∧ B.slots = A.slots + rm.slots)
    (fun U g a hW => backOf hM (show Z.Warmed39 (U.calling g ⟨cK, 1⟩ a).vm from wtrans hZ hW) wc wz (Nat.le_refl _) (by show 0 + (3 + 11) + rm.locals ≤ 14 + rm.locals; omega))
    (fun A a v B _ h => by obtain ⟨L, q, -⟩ := h; exact hret _ _ _ q)
    (by show rm.frames + 1 + 1 ≤ R.frames; omega) (by show W + (2 + 11) + (14 + rm.locals) ≤ R.locals; omega)
  intro m meth c A g ig mk a X hg hsize hdg hW hwho hpre
  obtain ⟨⟨f, rfl⟩, hh, hc, hs⟩ := hpre
  obtain ⟨cell, kE, e1, e2, e3, e4, -⟩ := E
  have e5 : cell.cls = toy := Option.some.inj (e2.symm.trans htoy)
  obtain ⟨v, B, X', ⟨ra', U₀, U₁, L₁, c₁, n₁, hx', h1, h2, ⟨L, hQ, l1, l2, l3⟩, hh', hv, hL, hc', hn'⟩, st⟩ := T m meth c A g ig mk _ X hg hsize hdg hW hwho ⟨f, ra, cell, rfl, by rw [hh]; exact e1, e5, (fun q hq => by rw [hq] at e4; cases e4), hc, hs, fun U₀ e1 e2 => ⟨rfl, e2.trans hh, (by show 0 + rm.cells ≤ rm.cells; omega), (by show 0 + rm.slots ≤ rm.slots; omega)⟩⟩
  dsimp only [Pt.U, Pt.locs, Pt.cells, Pt.slots] at l1 l2 l3 hQ
  exact ⟨v, B, X', ⟨L, by rw [hh']; exact hQ, by rw [hL, l1]; simp, by rw [hc', l2]; simp, by rw [hn', l3]; simp⟩, st⟩
def own_Mir (Z : State) (xw : Addr) : Prop := ∃ (c : ClassId) (k : Class), Z.vm.findClass "java/time/LocalDate" = some c ∧ Z.vm.classes[c]? = some k ∧ k.mirror = some xw
theorem own_mir {Z s : State} {args : Array Value} {a : Addr} (hZ : Z.Warmed39 s.vm) (h : own_Mir Z a) : (Term.mirror "java/time/LocalDate").eval args s none [] s = some (.ref a) := by
  obtain ⟨c, k, h1, h2, h3⟩ := h
  obtain ⟨k', q1, q2⟩ := hZ.alike.2.2 _ _ h2
  have q3 : s.vm.findClass "java/time/LocalDate" = some c := by rw [hZ.alike.findClass]; exact h1
  have q4 : k'.mirror = some a := by rw [q2]; exact h3
  simp [Term.eval, q3, q1, q4]
theorem own_pop2L {tb : Tables} [Ours tb] {e : Env} {below : List Frame} {T target : State} {m : MethodId} {c : Code} {g : JFrame} (h : At T m c below) (hx : tb.exec = Jvm.exec) (hg : g.method = m) {x : Int64} {rest : List Value} (hd : decode c.code g.pc = .ok (.pop2, 1)) (hs : g.stack = .long x :: rest)
    (hr : Steps tb e below (T.setTop { g with pc := g.pc + 1, stack := rest }) target) : Steps tb e below (T.setTop g) target := by
  subst hg
  jvm_step h [h.top, hx, hd, hs, Op.pop2.wp_sem, Value.category]
  exact hr
theorem own_hv {ws : List Int32} {p a b : Int32} {i : Nat} (hi : p.toNatClampNeg = i) (hy : ws.getD i 0 = a) (h : nar .byte a = b) : nar .byte (ws.getD (p).toNatClampNeg 0) = b := by rw [hi, hy]; exact h
theorem own_n01 {x : Int32} (h : x = 0 ∨ x = 1) : nar .byte x = x := by
  rcases h with h | h <;> rw [h] <;> decide
theorem own_i8b {x : Int32} (h : x = 0 ∨ x = 1) : (x.toInt8.toInt32) = 0 ∨ (x.toInt8.toInt32) = 1 := by
  rcases h with h | h <;> rw [h]
  · exact Or.inl (by decide)
  · exact Or.inr (by decide)
theorem own_m127 (x : Int32) : 0 ≤ (x &&& (127 : Int32)).toInt ∧ (x &&& (127 : Int32)).toInt ≤ 127 := by
  have m : (x &&& (127 : Int32)).toInt = x.toInt % 128 := c_mask x 127 7 (by decide) (by decide)
  omega
theorem own_lb (x : Int32) : ¬ ((x &&& (127 : Int32)).toInt8.toInt32) < 0 := own_nlt (by
  have a := own_m127 x
  have b := c_i2b (x &&& 127)
  show (0 : Int) ≤ _
  omega)
theorem own_b0 (x : Int32) : (((x &&& (127 : Int32)) ||| (128 : Int32)).toInt8.toInt32) < 0 := own_lt (by
  have a := own_m127 x
  have o : (((x &&& (127 : Int32)) ||| (128 : Int32)).toInt - ((128 : Int32).toInt + (x &&& (127 : Int32)).toInt)) % 4294967296 = 0 := c_or' (x &&& 127) 128 7 (by decide) 128 (by decide) (by decide) a.1 (by omega)
  have t : (128 : Int32).toInt = 128 := by decide
  have r := rng32 ((x &&& (127 : Int32)) ||| (128 : Int32))
  have b := c_i2b ((x &&& (127 : Int32)) ||| (128 : Int32))
  show _ < (0 : Int)
  omega)
theorem own_b2 (x : Int32) : ¬ (((x &&& (2097151 : Int32)).toUInt32 >>> ((14 : Int32) &&& 31).toUInt32).toInt32.toInt8.toInt32) < 0 := own_nlt (by
  have m : (x &&& (2097151 : Int32)).toInt = x.toInt % 2097152 := c_mask x 2097151 21 (by decide) (by decide)
  have u : (((x &&& (2097151 : Int32)).toUInt32 >>> ((14 : Int32) &&& 31).toUInt32).toInt32).toInt = ((x &&& (2097151 : Int32)).toInt % 4294967296) / 16384 := c_iushr (x &&& 2097151) 14 14 (by decide) (by decide)
  have b := c_i2b (((x &&& (2097151 : Int32)).toUInt32 >>> ((14 : Int32) &&& 31).toUInt32).toInt32)
  show (0 : Int) ≤ _
  omega)
theorem own_or (b a : Int64) (k : Nat) (hk : k ≤ 63) (P : Int) (hP : P = (2 ^ k : Nat)) (h1 : a.toInt % P = 0) (h2 : 0 ≤ b.toInt) (h3 : b.toInt < P) (h4 : 0 ≤ a.toInt) (h5 : a.toInt + b.toInt < 9223372036854775808) : (b ||| a).toInt = a.toInt + b.toInt := by
  have o := c_orL' b a k hk P hP h1 h2 h3
  have r := rng64 (b ||| a)
  omega
theorem own_m7 (x : Int32) : 0 ≤ ((x &&& (127 : Int32)).toInt64).toInt ∧ ((x &&& (127 : Int32)).toInt64).toInt ≤ 127 := by
  rw [c_i2l]; exact own_m127 x
theorem own_s0 {x : Int64} (h : 0 ≤ x.toInt ∧ x.toInt ≤ 127) : (x <<< ((0 : Int32) &&& 0x3f).toInt64).toInt = x.toInt := by
  have s : ((x <<< ((0 : Int32) &&& 0x3f).toInt64).toInt - x.toInt * 1) % 18446744073709551616 = 0 := c_lshl x 0 0 (by decide)
  have r := rng64 (x <<< ((0 : Int32) &&& 0x3f).toInt64)
  omega
theorem own_s7 {x : Int64} (h : 0 ≤ x.toInt ∧ x.toInt ≤ 127) : (x <<< ((7 : Int32) &&& 0x3f).toInt64).toInt = x.toInt * 128 := by
  have s : ((x <<< ((7 : Int32) &&& 0x3f).toInt64).toInt - x.toInt * 128) % 18446744073709551616 = 0 := c_lshl x 7 7 (by decide)
  have r := rng64 (x <<< ((7 : Int32) &&& 0x3f).toInt64)
  omega
theorem own_s14 {x : Int64} (h : 0 ≤ x.toInt ∧ x.toInt ≤ 127) : (x <<< ((14 : Int32) &&& 0x3f).toInt64).toInt = x.toInt * 16384 := by
  have s : ((x <<< ((14 : Int32) &&& 0x3f).toInt64).toInt - x.toInt * 16384) % 18446744073709551616 = 0 := c_lshl x 14 14 (by decide)
  have r := rng64 (x <<< ((14 : Int32) &&& 0x3f).toInt64)
  omega
theorem own_num1 (x : Int32) : 0 ≤ ((0 : Int64) ||| (((x &&& (127 : Int32)).toInt64) <<< ((0 : Int32) &&& 0x3f).toInt64)).toInt ∧ ((0 : Int64) ||| (((x &&& (127 : Int32)).toInt64) <<< ((0 : Int32) &&& 0x3f).toInt64)).toInt ≤ 127 := by
  have a := own_m7 x
  have s := own_s0 a
  have t0 : (0 : Int64).toInt = 0 := by decide
  have o := own_or 0 (((x &&& (127 : Int32)).toInt64) <<< ((0 : Int32) &&& 0x3f).toInt64) 0 (by decide) 1 (by decide) (by omega) (by decide) (by decide) (by omega) (by omega)
  omega
theorem own_num1le (x : Int32) : ¬ (2147483647 : Int64) < ((0 : Int64) ||| (((x &&& (127 : Int32)).toInt64) <<< ((0 : Int32) &&& 0x3f).toInt64)) := fun q => by
  have a := own_num1 x
  have b := own_ltL q
  have t : (2147483647 : Int64).toInt = 2147483647 := by decide
  omega
theorem own_num3 (x y z : Int32) : 0 ≤ ((((0 : Int64) ||| (((x &&& (127 : Int32)).toInt64) <<< ((0 : Int32) &&& 0x3f).toInt64)) ||| (((y &&& (127 : Int32)).toInt64) <<< ((7 : Int32) &&& 0x3f).toInt64)) ||| (((z &&& (127 : Int32)).toInt64) <<< ((14 : Int32) &&& 0x3f).toInt64)).toInt ∧ ((((0 : Int64) ||| (((x &&& (127 : Int32)).toInt64) <<< ((0 : Int32) &&& 0x3f).toInt64)) ||| (((y &&& (127 : Int32)).toInt64) <<< ((7 : Int32) &&& 0x3f).toInt64)) ||| (((z &&& (127 : Int32)).toInt64) <<< ((14 : Int32) &&& 0x3f).toInt64)).toInt < 2097152 := by
  have a := own_num1 x
  generalize ((0 : Int64) ||| (((x &&& (127 : Int32)).toInt64) <<< ((0 : Int32) &&& 0x3f).toInt64)) = u at a ⊢
  have b := own_m7 y
  have s := own_s7 b
  have o := own_or u (((y &&& (127 : Int32)).toInt64) <<< ((7 : Int32) &&& 0x3f).toInt64) 7 (by decide) 128 (by decide) (by omega) (by omega) (by omega) (by omega) (by omega)
  generalize (u ||| (((y &&& (127 : Int32)).toInt64) <<< ((7 : Int32) &&& 0x3f).toInt64)) = w at o ⊢
  have b' := own_m7 z
  have s' := own_s14 b'
  have o' := own_or w (((z &&& (127 : Int32)).toInt64) <<< ((14 : Int32) &&& 0x3f).toInt64) 14 (by decide) 16384 (by decide) (by omega) (by omega) (by omega) (by omega) (by omega)
  omega
theorem own_xm1 (x : Int64) : (x ^^^ (-1 : Int64)).toInt = -x.toInt - 1 := by
  have e : x ^^^ (-1 : Int64) = ~~~x := by
    apply Int64.toBitVec_inj.mp
    rw [Int64.toBitVec_xor, Int64.toBitVec_not, show (-1 : Int64).toBitVec = BitVec.allOnes 64 from by decide, BitVec.xor_allOnes]
  have n : ~~~x = -x - 1 := Int64.not_eq_neg_sub x
  rw [e, n]
  have a := c_lneg x
  have b := c_lsub (-x) 1
  have t : (1 : Int64).toInt = 1 := by decide
  have r := rng64 (-x - 1)
  have r' := rng64 x
  omega
theorem own_uzz {x : Int64} (h : 0 ≤ x.toInt ∧ x.toInt < 2097152) : -1048576 ≤ (((x.toUInt64 >>> ((1 : Int32) &&& 0x3f).toInt64.toUInt64).toInt64) ^^^ (-(x &&& (1 : Int64)))).toInt ∧ (((x.toUInt64 >>> ((1 : Int32) &&& 0x3f).toInt64.toUInt64).toInt64) ^^^ (-(x &&& (1 : Int64)))).toInt ≤ 1048575 := by
  have u : ((x.toUInt64 >>> ((1 : Int32) &&& 0x3f).toInt64.toUInt64).toInt64).toInt = (x.toInt % 18446744073709551616) / 2 := c_lushr x 1 1 (by decide) (by decide)
  have m : (x &&& (1 : Int64)).toInt = x.toInt % 2 := c_maskL x 1 1 (by decide) (by decide)
  generalize ((x.toUInt64 >>> ((1 : Int32) &&& 0x3f).toInt64.toUInt64).toInt64) = w at u ⊢
  rcases (by omega : x.toInt % 2 = 0 ∨ x.toInt % 2 = 1) with q | q
  · have e : x &&& (1 : Int64) = 0 := Int64.toInt_inj.mp (by rw [m, q]; decide)
    rw [e, show (-(0 : Int64)) = 0 from by decide, Int64.xor_zero]
    omega
  · have e : x &&& (1 : Int64) = 1 := Int64.toInt_inj.mp (by rw [m, q]; decide)
    rw [e, own_xm1]
    omega
def own_bd (x : Int64) (n : Int) : Prop := -n ≤ x.toInt ∧ x.toInt ≤ n
theorem own_bd.mono {x : Int64} {a b : Int} (h : own_bd x a) (q : a ≤ b) : own_bd x b := ⟨by have := h.1; omega, by have := h.2; omega⟩
theorem own_bd.add {x y : Int64} {a b : Int} (hx : own_bd x a) (hy : own_bd y b) (h : a + b < 9223372036854775808) : own_bd (x + y) (a + b) := by
  have q := c_ladd x y
  have r := rng64 (x + y)
  have h1 := hx.1
  have h2 := hx.2
  have h3 := hy.1
  have h4 := hy.2
  exact ⟨by omega, by omega⟩
theorem own_bd.sub {x y : Int64} {a b : Int} (hx : own_bd x a) (hy : own_bd y b) (h : a + b < 9223372036854775808) : own_bd (x - y) (a + b) := by
  have q := c_lsub x y
  have r := rng64 (x - y)
  have h1 := hx.1
  have h2 := hx.2
  have h3 := hy.1
  have h4 := hy.2
  exact ⟨by omega, by omega⟩
theorem own_bd.m365 {x : Int64} {a : Int} (hx : own_bd x a) (h : a < 10000000000) : own_bd ((365 : Int64) * x) (365 * a) := by
  have q := c_lmul 365 x
  have t : (365 : Int64).toInt = 365 := by decide
  rw [t] at q
  have r := rng64 (365 * x)
  have h1 := hx.1
  have h2 := hx.2
  exact ⟨by omega, by omega⟩
theorem own_bd.m367 {x : Int64} {a : Int} (hx : own_bd x a) (h : a < 10000000000) : own_bd ((367 : Int64) * x) (367 * a) := by
  have q := c_lmul 367 x
  have t : (367 : Int64).toInt = 367 := by decide
  rw [t] at q
  have r := rng64 (367 * x)
  have h1 := hx.1
  have h2 := hx.2
  exact ⟨by omega, by omega⟩
theorem own_bd.div {x c : Int64} {n : Int} (d : Int) (hx : own_bd x n) (hd : 0 < d) (hc : c.toInt = d) (h1 : c ≠ -1) : own_bd (x / c) n := by
  have q := c_ldiv x c d hc h1
  have h2 := hx.1
  have h3 := hx.2
  rcases Int.lt_or_le x.toInt 0 with h | h
  · have e := q.2 h
    have a := Int.ediv_le_self d (show 0 ≤ -x.toInt by omega)
    have b := Int.ediv_nonneg (show 0 ≤ -x.toInt by omega) (Int.le_of_lt hd)
    exact ⟨by omega, by omega⟩
  · have e := q.1 h
    have a := Int.ediv_le_self d h
    have b := Int.ediv_nonneg h (Int.le_of_lt hd)
    exact ⟨by omega, by omega⟩
theorem own_bd.divN {x c : Int64} {n : Int} (d : Int) (hx : own_bd x n) (hd : 0 < d) (hc : c.toInt = -d) (h1 : c ≠ -1) : own_bd (x / c) n := by
  have q := c_ldivN x c d hd hc h1
  have h2 := hx.1
  have h3 := hx.2
  rcases Int.lt_or_le x.toInt 0 with h | h
  · have e := q.2 h
    have a := Int.ediv_le_self d (show 0 ≤ -x.toInt by omega)
    have b := Int.ediv_nonneg (show 0 ≤ -x.toInt by omega) (Int.le_of_lt hd)
    exact ⟨by omega, by omega⟩
  · have e := q.1 h
    have a := Int.ediv_le_self d h
    have b := Int.ediv_nonneg h (Int.le_of_lt hd)
    exact ⟨by omega, by omega⟩
theorem own_bdI (x : Int32) : own_bd x.toInt64 2147483648 := by
  have r := rng32 x
  have e := c_i2l x
  exact ⟨by omega, by omega⟩
def own_t1 (y : Int64) : Int64 := if y < (0 : Int64) then ((0 : Int64) + ((365 : Int64) * y)) - (((y / (-4 : Int64)) - (y / (-100 : Int64))) + (y / (-400 : Int64))) else ((0 : Int64) + ((365 : Int64) * y)) + ((((y + (3 : Int64)) / (4 : Int64)) - ((y + (99 : Int64)) / (100 : Int64))) + ((y + (399 : Int64)) / (400 : Int64)))
def own_t2 (y m d : Int32) : Int64 := (own_t1 y.toInt64 + ((((367 : Int64) * m.toInt64) - (362 : Int64)) / (12 : Int64))) + (d - (1 : Int32)).toInt64
def own_ted (y m d : Int32) : Int64 := (if (2 : Int64) < m.toInt64 then (if (y.toInt64 &&& (3 : Int64)) = (0 : Int64) ∧ (¬ (y.toInt64 % (100 : Int64)) = (0 : Int64) ∨ (y.toInt64 % (400 : Int64)) = (0 : Int64)) then own_t2 y m d - (1 : Int64) else own_t2 y m d - (1 : Int64) - (1 : Int64)) else own_t2 y m d) - (719528 : Int64)
theorem own_t1_bd {y : Int64} (h : own_bd y 2147483648) : own_bd (own_t1 y) 900000000000 := by
  have z : own_bd (0 : Int64) 0 := ⟨by decide, by decide⟩
  have z3 : own_bd (3 : Int64) 3 := ⟨by decide, by decide⟩
  have z99 : own_bd (99 : Int64) 99 := ⟨by decide, by decide⟩
  have z399 : own_bd (399 : Int64) 399 := ⟨by decide, by decide⟩
  have a := own_bd.add z (own_bd.m365 h (by omega)) (by omega)
  unfold own_t1
  split
  · exact (own_bd.sub a (own_bd.add (own_bd.sub (own_bd.divN 4 h (by decide) (by decide) (by decide)) (own_bd.divN 100 h (by decide) (by decide) (by decide)) (by omega)) (own_bd.divN 400 h (by decide) (by decide) (by decide)) (by omega)) (by omega)).mono (by omega)
  · exact (own_bd.add a (own_bd.add (own_bd.sub (own_bd.div 4 (own_bd.add h z3 (by omega)) (by decide) (by decide) (by decide)) (own_bd.div 100 (own_bd.add h z99 (by omega)) (by decide) (by decide) (by decide)) (by omega)) (own_bd.div 400 (own_bd.add h z399 (by omega)) (by decide) (by decide) (by decide)) (by omega)) (by omega)).mono (by omega)
theorem own_t2_bd (y m d : Int32) : own_bd (own_t2 y m d) 1800000000000 := by
  have z362 : own_bd (362 : Int64) 362 := ⟨by decide, by decide⟩
  unfold own_t2
  exact (own_bd.add (own_bd.add (own_t1_bd (own_bdI y)) (own_bd.div 12 (own_bd.sub (own_bd.m367 (own_bdI m) (by omega)) z362 (by omega)) (by decide) (by decide) (by decide)) (by omega)) (own_bdI (d - 1)) (by omega)).mono (by omega)
theorem own_ted_ne (y m d : Int32) : ¬ own_ted y m d = (-9223372036854775808 : Int64) := fun q => by
  have z1 : own_bd (1 : Int64) 1 := ⟨by decide, by decide⟩
  have z7 : own_bd (719528 : Int64) 719528 := ⟨by decide, by decide⟩
  have t := own_t2_bd y m d
  have b : own_bd (own_ted y m d) 1900000000000 := by
    unfold own_ted
    split
    · split
      · exact (own_bd.sub (own_bd.sub t z1 (by omega)) z7 (by omega)).mono (by omega)
      · exact (own_bd.sub (own_bd.sub (own_bd.sub t z1 (by omega)) z1 (by omega)) z7 (by omega)).mono (by omega)
    · exact (own_bd.sub t z7 (by omega)).mono (by omega)
  rw [q] at b
  exact absurd b.1 (by decide)
theorem own_tmin : own_ted (-999999999) 1 1 = -365243219162 := by decide +kernel
theorem own_tmax : own_ted 999999999 12 31 = 365241780471 := by decide +kernel
theorem own_lo {w t : Int64} (h : -1048576 ≤ w.toInt ∧ w.toInt ≤ 1048575) (e : t = (-365243219162 : Int64)) : ¬ w < t := fun q => by
  have a := own_ltL q
  rw [e, show (-365243219162 : Int64).toInt = -365243219162 from by decide] at a
  omega
theorem own_hi {w t : Int64} (h : -1048576 ≤ w.toInt ∧ w.toInt ≤ 1048575) (e : t = (365241780471 : Int64)) : ¬ t < w := fun q => by
  have a := own_ltL q
  rw [e, show (365241780471 : Int64).toInt = 365241780471 from by decide] at a
  omega
theorem own_B.and1 {P : Prop} {r : Int32} (a : own_B P r) : own_B P (r &&& 1) := by
  rcases a with ⟨rfl, p⟩ | ⟨rfl, p⟩
  · exact Or.inl ⟨by decide, p⟩
  · exact Or.inr ⟨by decide, p⟩
theorem own_eqi {t : Term} {n : Int32} {args : Array Value} {s : State} (h : (Cond.eq t (.int n)).before args s = true) : t.eval args s none [] s = some (.int n) := by
  have hv := Cond.before_iff.mp h
  obtain ⟨x, y, h1, h2, h3, -⟩ := cmp_v (Or.inl hv)
  have e : y = .int n := Option.some.inj (h2.symm.trans rfl)
  subst e
  cases x with
  | int z => rw [h1]; simp [Cond.value, h1, Term.eval] at hv; rw [hv]
  | _ => simp [Kin, Value.isRef] at h3
theorem own_eql {t : Term} {n : Int64} {args : Array Value} {s : State} (h : (Cond.eq t (.long n)).before args s = true) : t.eval args s none [] s = some (.long n) := by
  have hv := Cond.before_iff.mp h
  obtain ⟨x, y, h1, h2, h3, -⟩ := cmp_v (Or.inl hv)
  have e : y = .long n := Option.some.inj (h2.symm.trans rfl)
  subst e
  cases x with
  | long z => rw [h1]; simp [Cond.value, h1, Term.eval] at hv; rw [hv]
  | _ => simp [Kin, Value.isRef] at h3
theorem own_some {Z : State} {a0 : Array Value} {h : Heap} {a : Addr} {C O n d O' n' d' : String} {w : Value} {N : Nat} (wi : (Cond.instantiable C N).before a0 Z = true) (E : Exa Z h a C) (F : Fld Z h a O' n' d' w) (L : Laid Z a0 C O n d) : ∃ v, Fld Z h a O n d v := by
  obtain ⟨cell, k, h1, h2, h3, h4, h5⟩ := E
  obtain ⟨cell', cf', k', i', f', g1, -, -, g4, -⟩ := F
  cases h1.symm.trans g1
  obtain ⟨c, k2, cf, kf, i, f, a1, a2, a3, a4, a5, a6, -⟩ := L.spec
  cases h2.symm.trans a1
  cases h3.symm.trans a2
  obtain ⟨ci, ki, i1, i2, i3, -⟩ := Cond.instantiable_spec wi
  cases h2.symm.trans i1
  cases h3.symm.trans i2
  have hlt : f.slot < cell.slots.size := by rw [h5 i3]; exact (Array.getElem?_eq_some_iff.mp a6).1
  exact ⟨cell.slots[f.slot], cell, cf, kf, i, f, h1, a3, a4, g4, h4, a5, Array.getElem?_eq_getElem hlt⟩
theorem own_lam0 {Z : State} {a0 : Array Value} (hw : ∀ d ∈ tables_1, d.before a0 Z = true) : ∃ fL cK, own_Lam Z fL cK := by
  obtain ⟨cK, one, hat⟩ := Cond.lambdaSite_spec ((hw _ (List.mem_of_getElem? (i := 110) rfl)) : (Cond.lambdaSite own_date 3 97 own_sg).before a0 Z = true)
  obtain ⟨mD, kD, cfD, i0, p0, lk, -, -, -, -, -, -, -, -, hl⟩ := State.lambdaAt?_spec hat
  rcases hl with ⟨a, cell, -, h2, -⟩ | ⟨-, -, h3⟩
  · subst h2; exact ⟨a, cK, hat⟩
  · exact absurd rfl h3
theorem own_emp {Z : State} {args : Array Value} {t : Term} {xd : Addr} {cl : Cell} (A : Arr Z Z.heap xd cl (.object "java/lang/Object")) (ev : t.eval args Z none [] Z = some (.ref xd)) (hf : Fit Z) (h : (Cond.eq (Term.length t) (.int 0)).before args Z = true) : ∃ kd, Arv Z Z.heap xd kd (.object "java/lang/Object") (0 : Int32) [] .null := by
  have e := own_eqi h
  have ha : Z.arrayAt? xd = some cl := Arr.fin (Vm.Alike.refl _) A
  simp only [Term.eval, ev, ha, Option.bind_eq_bind, Option.bind_some] at e
  have hs : cl.slots.size = 0 ∧ cl.slots.size < 2 ^ 31 := by
    split at e
    · rename_i hlt
      have q : cl.slots.size.toInt32 = 0 := by simpa using e
      have q2 := congrArg Int32.toInt q
      rw [len_toInt hlt] at q2
      exact ⟨by have t0 : (0 : Int32).toInt = 0 := (by decide); omega, hlt⟩
    · cases e
  exact ⟨cl.cls, Arv.start hf A hs.2 (by rw [hs.1]; decide) (by decide) (by decide) trivial⟩
abbrev own_Met (l : Launch) (y : MethodName) (bytes : ByteArray) (maxL : Nat) (ret : Option FieldType) (ws : List Jvm.Cond) (rm : Room) (as' : Array Value) (Z : State) (h0 : Heap) (Q : Option Value → Heap → List Loc → Prop) : Prop :=
  MetFree l y (head1 (Jvm.Cond.code y bytes maxL ret :: ws) rm) (fun a U => a = as' ∧ Z.Warmed39 U.vm ∧ U.heap = h0) (fun _ _ _ _ _ => True) (fun _ U o U' => ∃ v L, o = .returned v ∧ Q v U'.heap L ∧ FrameEnd U o U' L rm.cells rm.slots)
theorem own_met {l : Launch} {y : MethodName} {bytes : ByteArray} {maxL : Nat} {ret : Option FieldType} {ws : List Jvm.Cond} {rm : Room} {as' : Array Value} {Z : State} {h0 : Heap} {Q : Option Value → Heap → List Loc → Prop} {Ls : Array Slot} (n0 : Nat) (pl : plainFor y = true) (ef : ∀ m, entryFrame m as' maxL = mkF m 0 Ls [])
    (H : ∀ (p : Program) (e : Env) (s : State) (m : MethodId) (below : List Frame) (meth : Method) (c : Code) (s₁ : State), BodyLoose p l y (head1 (Jvm.Cond.code y bytes maxL ret :: ws) rm) bytes maxL ret e s m as' below meth c s₁ → Z.Warmed39 s.vm → p.tables.exec = Jvm.exec → c.code = bytes → c.maxLocals = maxL → s.vm.findClass y.cls = some m.cls → meth.name = y.name → Stand p l e rm s m as' below meth c s₁ [] 0 0 → s₁.heap = h0 → Fr n0 [] →
      ∀ K : State → Prop, (∀ (n : State) (v : Option Value) (L : List Loc), n.status = .running → Ended n below (.returned v) → Q v n.heap L → FrameEnd s (.returned v) n L rm.cells rm.slots → K n) → own_Go p e below K (s₁.setTop (mkF m 0 Ls []))) : own_Met l y bytes maxL ret ws rm as' Z h0 Q := by
  refine MetFree.of_bodySF pl hisR ?_
  intro p e s m args below meth c s₁ Bd hml0 hP hK
  obtain ⟨rfl, hZ, hh⟩ := hP
  obtain ⟨t, st, o, a, b, v, L, e1, q, fe⟩ := H p e s m below meth c s₁ Bd hZ Bd.exec Bd.bytes hml0 (findClass_of_methodNamed Bd.named) (name_of_methodNamed Bd.named Bd.method).1 (Stand.of_body Bd) (by rw [← hh, Bd.state]; rfl) (Fr.nil n0) (fun n => ∃ o, n.status = .running ∧ Ended n below o ∧ ∃ v L, o = .returned v ∧ Q v n.heap L ∧ FrameEnd s o n L rm.cells rm.slots) (fun n v L a b q f => ⟨_, a, b, v, L, rfl, q, f⟩)
  exact ⟨t, o, castTop (ef m) st, a, b, v, L, e1, q, fe⟩
theorem own_back {l : Launch} {p : Program} {e : Env} {below : List Frame} {R : Room} {s : State} {m : MethodId} {args : Array Value} {meth : Method} {c : Code} {locs : List Loc} {cells slots rc rs n0 pc' : Nat} {Q : Option Value → Heap → List Loc → Prop} {S0 : State} {g : JFrame} {rest : List Value} (NF : Fr n0 locs)
    (H : ∃ (v : Option Value) (vm₁ : Vm) (B : Pt), s.WarmedH vm₁ ∧ Stand p l e R s m args below meth c B.U B.locs B.cells B.slots ∧ (∃ L, Q v B.U.heap L ∧ B.locs = locs ++ L ∧ B.cells = cells + rc ∧ B.slots = slots + rs) ∧ Steps p.tables e below S0 (B.U.setTop { g with pc := pc', stack := v.toList ++ rest })) :
    ∃ v T' L' L, Stand p l e R s m args below meth c T' L' (cells + rc) (slots + rs) ∧ Q v T'.heap L ∧ (Fr n0 L → Fr n0 L') ∧ Steps p.tables e below S0 (T'.setTop { g with pc := pc', stack := v.toList ++ rest }) := by
  obtain ⟨v, vm₁, ⟨T', L', k, n⟩, -, X, ⟨L, hq, h1, h2, h3⟩, st⟩ := H
  dsimp only [Pt.U, Pt.locs, Pt.cells, Pt.slots] at X h1 h2 h3 st hq
  subst h1 h2 h3
  exact ⟨v, T', _, L, X, hq, fun q => Fr.app NF q, st⟩
theorem own_backS {l : Launch} {p : Program} {e : Env} {below : List Frame} {R : Room} {s : State} {m : MethodId} {args : Array Value} {meth : Method} {c : Code} {locs : List Loc} {cells slots rc rs n0 pc' : Nat} {Q : Option Value → Heap → List Loc → Prop} {S0 : State} {g : JFrame} {rest : List Value} (NF : Fr n0 locs)
    (H : ∃ (v : Option Value) (vm₁ : Vm) (B : Pt), s.WarmedH vm₁ ∧ Stand p l e R s m args below meth c B.U B.locs B.cells B.slots ∧ (∃ L, Q v B.U.heap L ∧ B.locs = locs ++ L ∧ B.cells = cells + rc ∧ B.slots = slots + rs) ∧ ∀ target, Steps p.tables e below (B.U.setTop { g with pc := pc', stack := v.toList ++ rest }) target → Steps p.tables e below S0 target) :
    ∃ v T' L' L, Stand p l e R s m args below meth c T' L' (cells + rc) (slots + rs) ∧ Q v T'.heap L ∧ (Fr n0 L → Fr n0 L') ∧ Steps p.tables e below S0 (T'.setTop { g with pc := pc', stack := v.toList ++ rest }) := by
  obtain ⟨v, vm₁, ⟨T', L', k, n⟩, -, X, ⟨L, hq, h1, h2, h3⟩, st⟩ := H
  dsimp only [Pt.U, Pt.locs, Pt.cells, Pt.slots] at X h1 h2 h3 st hq
  subst h1 h2 h3
  exact ⟨v, T', _, L, X, hq, fun q => Fr.app NF q, st _ (Steps.refl _)⟩
section OwnSteps
variable {p : Program} {l : Launch} {e : Env} {R : Room} {s : State} {m : MethodId} {args : Array Value} {below : List Frame} {meth : Method} {c : Code} {T : State} {locs : List Loc} {cells slots : Nat} {K : State → Prop} {b : ByteArray} {pc : Nat} {Ls : Array Slot} {S : List Value}
theorem own_xaloadN (X : Stand p l e R s m args below meth c T locs cells slots) (hx : p.tables.exec = Jvm.exec) (hby : c.code = b) {i : Fin 4} {v : Value} (hd : decode b pc = .ok (.aload_n i, 1)) (hl : Ls[i.val]? = some (.val v)) (hv : v.isRef = true) (k : own_Go p e below K (T.setTop (mkF m (pc + 1) Ls (v :: S)))) : own_Go p e below K (T.setTop (mkF m pc Ls (S))) := own_st (fun _ => XS.aloadN X.here hx rfl (hb hby hd) hl hv) k
theorem own_xaload (X : Stand p l e R s m args below meth c T locs cells slots) (hx : p.tables.exec = Jvm.exec) (hby : c.code = b) {i : Nat} {v : Value} (hd : decode b pc = .ok (.aload i, 2)) (hl : Ls[i]? = some (.val v)) (hv : v.isRef = true) (k : own_Go p e below K (T.setTop (mkF m (pc + 2) Ls (v :: S)))) : own_Go p e below K (T.setTop (mkF m pc Ls (S))) := own_st (fun _ => XS.aload X.here hx rfl (hb hby hd) hl hv) k
theorem own_xiloadN (X : Stand p l e R s m args below meth c T locs cells slots) (hx : p.tables.exec = Jvm.exec) (hby : c.code = b) {i : Fin 4} {v : Int32} (hd : decode b pc = .ok (.iload_n i, 1)) (hl : Ls[i.val]? = some (.val (.int v))) (k : own_Go p e below K (T.setTop (mkF m (pc + 1) Ls (.int v :: S)))) : own_Go p e below K (T.setTop (mkF m pc Ls (S))) := own_st (fun _ => XS.iloadN X.here hx rfl (hb hby hd) hl) k
theorem own_xiload (X : Stand p l e R s m args below meth c T locs cells slots) (hx : p.tables.exec = Jvm.exec) (hby : c.code = b) {i : Nat} {v : Int32} (hd : decode b pc = .ok (.iload i, 2)) (hl : Ls[i]? = some (.val (.int v))) (k : own_Go p e below K (T.setTop (mkF m (pc + 2) Ls (.int v :: S)))) : own_Go p e below K (T.setTop (mkF m pc Ls (S))) := own_st (fun _ => XS.iload X.here hx rfl (hb hby hd) hl) k
theorem own_xlloadN (X : Stand p l e R s m args below meth c T locs cells slots) (hx : p.tables.exec = Jvm.exec) (hby : c.code = b) {i : Fin 4} {v : Int64} (hd : decode b pc = .ok (.lload_n i, 1)) (hl : Ls[i.val]? = some (.val (.long v))) (k : own_Go p e below K (T.setTop (mkF m (pc + 1) Ls (.long v :: S)))) : own_Go p e below K (T.setTop (mkF m pc Ls (S))) := own_st (fun _ => XS.lloadN X.here hx rfl (hb hby hd) hl) k
theorem own_xlload (X : Stand p l e R s m args below meth c T locs cells slots) (hx : p.tables.exec = Jvm.exec) (hby : c.code = b) {i : Nat} {v : Int64} (hd : decode b pc = .ok (.lload i, 2)) (hl : Ls[i]? = some (.val (.long v))) (k : own_Go p e below K (T.setTop (mkF m (pc + 2) Ls (.long v :: S)))) : own_Go p e below K (T.setTop (mkF m pc Ls (S))) := own_st (fun _ => XS.lload X.here hx rfl (hb hby hd) hl) k
theorem own_xaconstNull (X : Stand p l e R s m args below meth c T locs cells slots) (hx : p.tables.exec = Jvm.exec) (hby : c.code = b)  (hd : decode b pc = .ok (.aconst_null, 1))  (k : own_Go p e below K (T.setTop (mkF m (pc + 1) Ls (.null :: S)))) : own_Go p e below K (T.setTop (mkF m pc Ls (S))) := own_st (fun _ => XS.aconstNull X.here hx rfl (hb hby hd)) k
theorem own_xiconst (X : Stand p l e R s m args below meth c T locs cells slots) (hx : p.tables.exec = Jvm.exec) (hby : c.code = b) {i : Int} (hd : decode b pc = .ok (.iconst i, 1)) (v : Int32) (hv : Int32.ofInt i = v) (k : own_Go p e below K (T.setTop (mkF m (pc + 1) Ls (.int v :: S)))) : own_Go p e below K (T.setTop (mkF m pc Ls S)) := own_st (fun _ => XS.iconst X.here hx rfl (hb hby hd)) (by rw [hv]; exact k)
theorem own_xbipush (X : Stand p l e R s m args below meth c T locs cells slots) (hx : p.tables.exec = Jvm.exec) (hby : c.code = b) {i : Int} (hd : decode b pc = .ok (.bipush i, 2)) (v : Int32) (hv : (Int8.ofInt i).toInt32 = v) (k : own_Go p e below K (T.setTop (mkF m (pc + 2) Ls (.int v :: S)))) : own_Go p e below K (T.setTop (mkF m pc Ls S)) := own_st (fun _ => XS.bipush X.here hx rfl (hb hby hd)) (by rw [hv]; exact k)
theorem own_xsipush (X : Stand p l e R s m args below meth c T locs cells slots) (hx : p.tables.exec = Jvm.exec) (hby : c.code = b) {i : Int} (hd : decode b pc = .ok (.sipush i, 3)) (v : Int32) (hv : (Int16.ofInt i).toInt32 = v) (k : own_Go p e below K (T.setTop (mkF m (pc + 3) Ls (.int v :: S)))) : own_Go p e below K (T.setTop (mkF m pc Ls S)) := own_st (fun _ => XS.sipush X.here hx rfl (hb hby hd)) (by rw [hv]; exact k)
theorem own_xiadd (X : Stand p l e R s m args below meth c T locs cells slots) (hx : p.tables.exec = Jvm.exec) (hby : c.code = b) {x : Int32} {y : Int32} (hd : decode b pc = .ok (.iadd, 1))  (k : own_Go p e below K (T.setTop (mkF m (pc + 1) Ls (.int (x + y) :: S)))) : own_Go p e below K (T.setTop (mkF m pc Ls (.int y :: .int x :: S))) := own_st (fun _ => XS.iadd X.here hx rfl (hb hby hd) rfl) k
theorem own_xladd (X : Stand p l e R s m args below meth c T locs cells slots) (hx : p.tables.exec = Jvm.exec) (hby : c.code = b) {x : Int64} {y : Int64} (hd : decode b pc = .ok (.ladd, 1))  (k : own_Go p e below K (T.setTop (mkF m (pc + 1) Ls (.long (x + y) :: S)))) : own_Go p e below K (T.setTop (mkF m pc Ls (.long y :: .long x :: S))) := own_st (fun _ => XS.ladd X.here hx rfl (hb hby hd) rfl) k
theorem own_xisub (X : Stand p l e R s m args below meth c T locs cells slots) (hx : p.tables.exec = Jvm.exec) (hby : c.code = b) {x : Int32} {y : Int32} (hd : decode b pc = .ok (.isub, 1))  (k : own_Go p e below K (T.setTop (mkF m (pc + 1) Ls (.int (x - y) :: S)))) : own_Go p e below K (T.setTop (mkF m pc Ls (.int y :: .int x :: S))) := own_st (fun _ => XS.isub X.here hx rfl (hb hby hd) rfl) k
theorem own_xlsub (X : Stand p l e R s m args below meth c T locs cells slots) (hx : p.tables.exec = Jvm.exec) (hby : c.code = b) {x : Int64} {y : Int64} (hd : decode b pc = .ok (.lsub, 1))  (k : own_Go p e below K (T.setTop (mkF m (pc + 1) Ls (.long (x - y) :: S)))) : own_Go p e below K (T.setTop (mkF m pc Ls (.long y :: .long x :: S))) := own_st (fun _ => XS.lsub X.here hx rfl (hb hby hd) rfl) k
theorem own_ximul (X : Stand p l e R s m args below meth c T locs cells slots) (hx : p.tables.exec = Jvm.exec) (hby : c.code = b) {x : Int32} {y : Int32} (hd : decode b pc = .ok (.imul, 1))  (k : own_Go p e below K (T.setTop (mkF m (pc + 1) Ls (.int (x * y) :: S)))) : own_Go p e below K (T.setTop (mkF m pc Ls (.int y :: .int x :: S))) := own_st (fun _ => XS.imul X.here hx rfl (hb hby hd) rfl) k
theorem own_xlmul (X : Stand p l e R s m args below meth c T locs cells slots) (hx : p.tables.exec = Jvm.exec) (hby : c.code = b) {x : Int64} {y : Int64} (hd : decode b pc = .ok (.lmul, 1))  (k : own_Go p e below K (T.setTop (mkF m (pc + 1) Ls (.long (x * y) :: S)))) : own_Go p e below K (T.setTop (mkF m pc Ls (.long y :: .long x :: S))) := own_st (fun _ => XS.lmul X.here hx rfl (hb hby hd) rfl) k
theorem own_xiand (X : Stand p l e R s m args below meth c T locs cells slots) (hx : p.tables.exec = Jvm.exec) (hby : c.code = b) {x : Int32} {y : Int32} (hd : decode b pc = .ok (.iand, 1))  (k : own_Go p e below K (T.setTop (mkF m (pc + 1) Ls (.int (x &&& y) :: S)))) : own_Go p e below K (T.setTop (mkF m pc Ls (.int y :: .int x :: S))) := own_st (fun _ => XS.iand X.here hx rfl (hb hby hd) rfl) k
theorem own_xland (X : Stand p l e R s m args below meth c T locs cells slots) (hx : p.tables.exec = Jvm.exec) (hby : c.code = b) {x : Int64} {y : Int64} (hd : decode b pc = .ok (.land, 1))  (k : own_Go p e below K (T.setTop (mkF m (pc + 1) Ls (.long (x &&& y) :: S)))) : own_Go p e below K (T.setTop (mkF m pc Ls (.long y :: .long x :: S))) := own_st (fun _ => XS.land X.here hx rfl (hb hby hd) rfl) k
theorem own_xior (X : Stand p l e R s m args below meth c T locs cells slots) (hx : p.tables.exec = Jvm.exec) (hby : c.code = b) {x : Int32} {y : Int32} (hd : decode b pc = .ok (.ior, 1))  (k : own_Go p e below K (T.setTop (mkF m (pc + 1) Ls (.int (x ||| y) :: S)))) : own_Go p e below K (T.setTop (mkF m pc Ls (.int y :: .int x :: S))) := own_st (fun _ => XS.ior X.here hx rfl (hb hby hd) rfl) k
theorem own_xlor (X : Stand p l e R s m args below meth c T locs cells slots) (hx : p.tables.exec = Jvm.exec) (hby : c.code = b) {x : Int64} {y : Int64} (hd : decode b pc = .ok (.lor, 1))  (k : own_Go p e below K (T.setTop (mkF m (pc + 1) Ls (.long (x ||| y) :: S)))) : own_Go p e below K (T.setTop (mkF m pc Ls (.long y :: .long x :: S))) := own_st (fun _ => XS.lor X.here hx rfl (hb hby hd) rfl) k
theorem own_xixor (X : Stand p l e R s m args below meth c T locs cells slots) (hx : p.tables.exec = Jvm.exec) (hby : c.code = b) {x : Int32} {y : Int32} (hd : decode b pc = .ok (.ixor, 1))  (k : own_Go p e below K (T.setTop (mkF m (pc + 1) Ls (.int (x ^^^ y) :: S)))) : own_Go p e below K (T.setTop (mkF m pc Ls (.int y :: .int x :: S))) := own_st (fun _ => XS.ixor X.here hx rfl (hb hby hd) rfl) k
theorem own_xlxor (X : Stand p l e R s m args below meth c T locs cells slots) (hx : p.tables.exec = Jvm.exec) (hby : c.code = b) {x : Int64} {y : Int64} (hd : decode b pc = .ok (.lxor, 1))  (k : own_Go p e below K (T.setTop (mkF m (pc + 1) Ls (.long (x ^^^ y) :: S)))) : own_Go p e below K (T.setTop (mkF m pc Ls (.long y :: .long x :: S))) := own_st (fun _ => XS.lxor X.here hx rfl (hb hby hd) rfl) k
theorem own_xidiv (X : Stand p l e R s m args below meth c T locs cells slots) (hx : p.tables.exec = Jvm.exec) (hby : c.code = b) {x : Int32} {y : Int32} (hd : decode b pc = .ok (.idiv, 1)) (hy : y ≠ 0) (k : own_Go p e below K (T.setTop (mkF m (pc + 1) Ls (.int (x / y) :: S)))) : own_Go p e below K (T.setTop (mkF m pc Ls (.int y :: .int x :: S))) := own_st (fun _ => XS.idiv X.here hx rfl (hb hby hd) rfl hy) k
theorem own_xldiv (X : Stand p l e R s m args below meth c T locs cells slots) (hx : p.tables.exec = Jvm.exec) (hby : c.code = b) {x : Int64} {y : Int64} (hd : decode b pc = .ok (.ldiv, 1)) (hy : y ≠ 0) (k : own_Go p e below K (T.setTop (mkF m (pc + 1) Ls (.long (x / y) :: S)))) : own_Go p e below K (T.setTop (mkF m pc Ls (.long y :: .long x :: S))) := own_st (fun _ => XS.ldiv X.here hx rfl (hb hby hd) rfl hy) k
theorem own_xiushr (X : Stand p l e R s m args below meth c T locs cells slots) (hx : p.tables.exec = Jvm.exec) (hby : c.code = b) {x : Int32} {y : Int32} (hd : decode b pc = .ok (.iushr, 1))  (k : own_Go p e below K (T.setTop (mkF m (pc + 1) Ls (.int ((x.toUInt32 >>> (y &&& 31).toUInt32).toInt32) :: S)))) : own_Go p e below K (T.setTop (mkF m pc Ls (.int y :: .int x :: S))) := own_st (fun _ => XS.iushr X.here hx rfl (hb hby hd) rfl) k
theorem own_xlshl (X : Stand p l e R s m args below meth c T locs cells slots) (hx : p.tables.exec = Jvm.exec) (hby : c.code = b) {x : Int64} {y : Int32} (hd : decode b pc = .ok (.lshl, 1))  (k : own_Go p e below K (T.setTop (mkF m (pc + 1) Ls (.long (x <<< (y &&& 0x3f).toInt64) :: S)))) : own_Go p e below K (T.setTop (mkF m pc Ls (.int y :: .long x :: S))) := own_st (fun _ => XS.lshl X.here hx rfl (hb hby hd) rfl) k
theorem own_xlushr (X : Stand p l e R s m args below meth c T locs cells slots) (hx : p.tables.exec = Jvm.exec) (hby : c.code = b) {x : Int64} {y : Int32} (hd : decode b pc = .ok (.lushr, 1))  (k : own_Go p e below K (T.setTop (mkF m (pc + 1) Ls (.long ((x.toUInt64 >>> (y &&& 0x3f).toInt64.toUInt64).toInt64) :: S)))) : own_Go p e below K (T.setTop (mkF m pc Ls (.int y :: .long x :: S))) := own_st (fun _ => XS.lushr X.here hx rfl (hb hby hd) rfl) k
theorem own_xlcmp (X : Stand p l e R s m args below meth c T locs cells slots) (hx : p.tables.exec = Jvm.exec) (hby : c.code = b) {x : Int64} {y : Int64} (hd : decode b pc = .ok (.lcmp, 1))  (k : own_Go p e below K (T.setTop (mkF m (pc + 1) Ls (.int (lcmpW x y) :: S)))) : own_Go p e below K (T.setTop (mkF m pc Ls (.long y :: .long x :: S))) := own_st (fun _ => XS.lcmp X.here hx rfl (hb hby hd) rfl) k
theorem own_xi2l (X : Stand p l e R s m args below meth c T locs cells slots) (hx : p.tables.exec = Jvm.exec) (hby : c.code = b) {x : Int32} (hd : decode b pc = .ok (.i2l, 1))  (k : own_Go p e below K (T.setTop (mkF m (pc + 1) Ls (.long (x.toInt64) :: S)))) : own_Go p e below K (T.setTop (mkF m pc Ls (.int x :: S))) := own_st (fun _ => XS.i2l X.here hx rfl (hb hby hd) rfl) k
theorem own_xl2i (X : Stand p l e R s m args below meth c T locs cells slots) (hx : p.tables.exec = Jvm.exec) (hby : c.code = b) {x : Int64} (hd : decode b pc = .ok (.l2i, 1))  (k : own_Go p e below K (T.setTop (mkF m (pc + 1) Ls (.int (x.toInt32) :: S)))) : own_Go p e below K (T.setTop (mkF m pc Ls (.long x :: S))) := own_st (fun _ => XS.l2i X.here hx rfl (hb hby hd) rfl) k
theorem own_xi2b (X : Stand p l e R s m args below meth c T locs cells slots) (hx : p.tables.exec = Jvm.exec) (hby : c.code = b) {x : Int32} (hd : decode b pc = .ok (.i2b, 1))  (k : own_Go p e below K (T.setTop (mkF m (pc + 1) Ls (.int (x.toInt8.toInt32) :: S)))) : own_Go p e below K (T.setTop (mkF m pc Ls (.int x :: S))) := own_st (fun _ => XS.i2b X.here hx rfl (hb hby hd) rfl) k
theorem own_xi2s (X : Stand p l e R s m args below meth c T locs cells slots) (hx : p.tables.exec = Jvm.exec) (hby : c.code = b) {x : Int32} (hd : decode b pc = .ok (.i2s, 1))  (k : own_Go p e below K (T.setTop (mkF m (pc + 1) Ls (.int (x.toInt16.toInt32) :: S)))) : own_Go p e below K (T.setTop (mkF m pc Ls (.int x :: S))) := own_st (fun _ => XS.i2s X.here hx rfl (hb hby hd) rfl) k
theorem own_xlneg (X : Stand p l e R s m args below meth c T locs cells slots) (hx : p.tables.exec = Jvm.exec) (hby : c.code = b) {x : Int64} (hd : decode b pc = .ok (.lneg, 1))  (k : own_Go p e below K (T.setTop (mkF m (pc + 1) Ls (.long (-x) :: S)))) : own_Go p e below K (T.setTop (mkF m pc Ls (.long x :: S))) := own_st (fun _ => XS.lneg X.here hx rfl (hb hby hd) rfl) k
theorem own_xineg (X : Stand p l e R s m args below meth c T locs cells slots) (hx : p.tables.exec = Jvm.exec) (hby : c.code = b) {x : Int32} (hd : decode b pc = .ok (.ineg, 1))  (k : own_Go p e below K (T.setTop (mkF m (pc + 1) Ls (.int (-x) :: S)))) : own_Go p e below K (T.setTop (mkF m pc Ls (.int x :: S))) := own_st (fun _ => XS.ineg X.here hx rfl (hb hby hd) rfl) k
theorem own_xdup (X : Stand p l e R s m args below meth c T locs cells slots) (hx : p.tables.exec = Jvm.exec) (hby : c.code = b) {x : Value} (hd : decode b pc = .ok (.dup, 1)) (hc : x.category = 1) (k : own_Go p e below K (T.setTop (mkF m (pc + 1) Ls (x :: x :: S)))) : own_Go p e below K (T.setTop (mkF m pc Ls (x :: S))) := own_st (fun _ => XS.dup X.here hx rfl (hb hby hd) rfl hc) k
theorem own_xistoreN (X : Stand p l e R s m args below meth c T locs cells slots) (hx : p.tables.exec = Jvm.exec) (hby : c.code = b) {i : Fin 4} {x : Int32} {l' : Array Slot} (hd : decode b pc = .ok (.istore_n i, 1)) (hl : storeLocals Ls i.val (.int x) = some l') (k : own_Go p e below K (T.setTop (mkF m (pc + 1) l' (S)))) : own_Go p e below K (T.setTop (mkF m pc Ls (.int x :: S))) := own_st (fun _ => XS.istoreN X.here hx rfl (hb hby hd) rfl hl) k
theorem own_xistore (X : Stand p l e R s m args below meth c T locs cells slots) (hx : p.tables.exec = Jvm.exec) (hby : c.code = b) {i : Nat} {x : Int32} {l' : Array Slot} (hd : decode b pc = .ok (.istore i, 2)) (hl : storeLocals Ls i (.int x) = some l') (k : own_Go p e below K (T.setTop (mkF m (pc + 2) l' (S)))) : own_Go p e below K (T.setTop (mkF m pc Ls (.int x :: S))) := own_st (fun _ => XS.istore X.here hx rfl (hb hby hd) rfl hl) k
theorem own_xlstoreN (X : Stand p l e R s m args below meth c T locs cells slots) (hx : p.tables.exec = Jvm.exec) (hby : c.code = b) {i : Fin 4} {x : Int64} {l' : Array Slot} (hd : decode b pc = .ok (.lstore_n i, 1)) (hl : storeLocals Ls i.val (.long x) = some l') (k : own_Go p e below K (T.setTop (mkF m (pc + 1) l' (S)))) : own_Go p e below K (T.setTop (mkF m pc Ls (.long x :: S))) := own_st (fun _ => XS.lstoreN X.here hx rfl (hb hby hd) rfl hl) k
theorem own_xlstore (X : Stand p l e R s m args below meth c T locs cells slots) (hx : p.tables.exec = Jvm.exec) (hby : c.code = b) {i : Nat} {x : Int64} {l' : Array Slot} (hd : decode b pc = .ok (.lstore i, 2)) (hl : storeLocals Ls i (.long x) = some l') (k : own_Go p e below K (T.setTop (mkF m (pc + 2) l' (S)))) : own_Go p e below K (T.setTop (mkF m pc Ls (.long x :: S))) := own_st (fun _ => XS.lstore X.here hx rfl (hb hby hd) rfl hl) k
theorem own_xastoreN (X : Stand p l e R s m args below meth c T locs cells slots) (hx : p.tables.exec = Jvm.exec) (hby : c.code = b) {i : Fin 4} {x : Value} {l' : Array Slot} (hd : decode b pc = .ok (.astore_n i, 1)) (hv : x.isRef = true) (hl : storeLocals Ls i.val x = some l') (k : own_Go p e below K (T.setTop (mkF m (pc + 1) l' (S)))) : own_Go p e below K (T.setTop (mkF m pc Ls (x :: S))) := own_st (fun _ => XS.astoreN X.here hx rfl (hb hby hd) rfl hv hl) k
theorem own_xastore (X : Stand p l e R s m args below meth c T locs cells slots) (hx : p.tables.exec = Jvm.exec) (hby : c.code = b) {i : Nat} {x : Value} {l' : Array Slot} (hd : decode b pc = .ok (.astore i, 2)) (hv : x.isRef = true) (hl : storeLocals Ls i x = some l') (k : own_Go p e below K (T.setTop (mkF m (pc + 2) l' (S)))) : own_Go p e below K (T.setTop (mkF m pc Ls (x :: S))) := own_st (fun _ => XS.astore X.here hx rfl (hb hby hd) rfl hv hl) k
theorem own_xiinc (X : Stand p l e R s m args below meth c T locs cells slots) (hx : p.tables.exec = Jvm.exec) (hby : c.code = b) {i : Nat} {q : Int} {x : Int32} {l' : Array Slot} (hd : decode b pc = .ok (.iinc i q, 3)) (hl : Ls[i]? = some (.val (.int x))) (hl' : storeLocals Ls i (.int (x + Int32.ofInt q)) = some l') (k : own_Go p e below K (T.setTop (mkF m (pc + 3) l' (S)))) : own_Go p e below K (T.setTop (mkF m pc Ls (S))) := own_st (fun _ => XS.iinc X.here hx rfl (hb hby hd) hl hl') k
theorem own_xgoto (X : Stand p l e R s m args below meth c T locs cells slots) (hx : p.tables.exec = Jvm.exec) (hby : c.code = b) {o : Int} {pc0 pc' : Nat} (hd : decode b pc = .ok (.goto o, 3)) (hpc : pc = pc0) (ho : 0 ≤ (pc0 : Int) + o) (hp : ((pc0 : Int) + o).toNat = pc') (k : own_Go p e below K (T.setTop (mkF m pc' Ls (S)))) : own_Go p e below K (T.setTop (mkF m pc Ls (S))) := own_st (fun _ => XS.goto X.here hx rfl hpc (hb hby hd) ho hp) k
theorem own_xifYes (X : Stand p l e R s m args below meth c T locs cells slots) (hx : p.tables.exec = Jvm.exec) (hby : c.code = b) {cd : ClassFile.Cond} {x : Int32} {o : Int} {pc0 pc' : Nat} (hd : decode b pc = .ok (.ifCond cd o, 3)) (hc : ifCond.holds cd x = true) (hpc : pc = pc0) (ho : 0 ≤ (pc0 : Int) + o) (hp : ((pc0 : Int) + o).toNat = pc') (k : own_Go p e below K (T.setTop (mkF m pc' Ls (S)))) : own_Go p e below K (T.setTop (mkF m pc Ls (.int x :: S))) := own_st (fun _ => XS.ifYes X.here hx rfl hpc (hb hby hd) rfl hc ho hp) k
theorem own_xifNo (X : Stand p l e R s m args below meth c T locs cells slots) (hx : p.tables.exec = Jvm.exec) (hby : c.code = b) {cd : ClassFile.Cond} {x : Int32} {o : Int} (hd : decode b pc = .ok (.ifCond cd o, 3)) (hc : ifCond.holds cd x = false) (k : own_Go p e below K (T.setTop (mkF m (pc + 3) Ls (S)))) : own_Go p e below K (T.setTop (mkF m pc Ls (.int x :: S))) := own_st (fun _ => XS.ifNo X.here hx rfl (hb hby hd) rfl hc) k
theorem own_xicmpYes (X : Stand p l e R s m args below meth c T locs cells slots) (hx : p.tables.exec = Jvm.exec) (hby : c.code = b) {cd : ClassFile.Cond} {x y : Int32} {o : Int} {pc0 pc' : Nat} (hd : decode b pc = .ok (.if_icmp cd o, 3)) (hc : if_icmp.holds cd x y = true) (hpc : pc = pc0) (ho : 0 ≤ (pc0 : Int) + o) (hp : ((pc0 : Int) + o).toNat = pc') (k : own_Go p e below K (T.setTop (mkF m pc' Ls (S)))) : own_Go p e below K (T.setTop (mkF m pc Ls (.int y :: .int x :: S))) := own_st (fun _ => XS.icmpYes X.here hx rfl hpc (hb hby hd) rfl hc ho hp) k
theorem own_xicmpNo (X : Stand p l e R s m args below meth c T locs cells slots) (hx : p.tables.exec = Jvm.exec) (hby : c.code = b) {cd : ClassFile.Cond} {x y : Int32} {o : Int} (hd : decode b pc = .ok (.if_icmp cd o, 3)) (hc : if_icmp.holds cd x y = false) (k : own_Go p e below K (T.setTop (mkF m (pc + 3) Ls (S)))) : own_Go p e below K (T.setTop (mkF m pc Ls (.int y :: .int x :: S))) := own_st (fun _ => XS.icmpNo X.here hx rfl (hb hby hd) rfl hc) k
end OwnSteps
def own_P (Z : State) (xx : Nat → Nat) : Prop := (Sta Z Z.heap "java/util/ArrayList" "DEFAULTCAPACITY_EMPTY_ELEMENTDATA" "[Ljava/lang/Object;" (.ref (xx 0))) ∧ (Arv Z Z.heap (xx 0) (xx 1) (.object "java/lang/Object") (0 : Int32) [] .null) ∧ (Sta Z Z.heap "com/example/deferline/deferline/books/Ledger" "NO_ENTRIES" "Ljava/util/List;" (.ref (xx 2))) ∧ (Sta Z Z.heap "com/example/deferline/deferline/books/AccountBooks" "NONE_HELD" "[Lcom/example/deferline/deferline/books/AccountBooks$Units;" (.ref (xx 3))) ∧ (Sta Z Z.heap "java/util/ImmutableCollections" "EMPTY_LIST" "Ljava/util/ImmutableCollections$ListN;" (.ref (xx 4))) ∧ (Sta Z Z.heap "java/util/ImmutableCollections" "EMPTY_SET" "Ljava/util/ImmutableCollections$SetN;" (.ref (xx 5))) ∧ (Sta Z Z.heap "java/time/LocalDate" "MIN" "Ljava/time/LocalDate;" (.ref (xx 6))) ∧ (Exa Z Z.heap (xx 6) "java/time/LocalDate") ∧ (Fld Z Z.heap (xx 6) "java/time/LocalDate" "year" "I" (.int (-999999999 : Int32))) ∧ (Fld Z Z.heap (xx 6) "java/time/LocalDate" "month" "S" (.int (1 : Int32))) ∧ (Fld Z Z.heap (xx 6) "java/time/LocalDate" "day" "S" (.int (1 : Int32))) ∧ (Sta Z Z.heap "java/time/LocalDate" "MAX" "Ljava/time/LocalDate;" (.ref (xx 7))) ∧ (Exa Z Z.heap (xx 7) "java/time/LocalDate") ∧ (Fld Z Z.heap (xx 7) "java/time/LocalDate" "year" "I" (.int (999999999 : Int32))) ∧ (Fld Z Z.heap (xx 7) "java/time/LocalDate" "month" "S" (.int (12 : Int32))) ∧ (Fld Z Z.heap (xx 7) "java/time/LocalDate" "day" "S" (.int (31 : Int32))) ∧ (Sta Z Z.heap "java/time/chrono/IsoChronology" "INSTANCE" "Ljava/time/chrono/IsoChronology;" (.ref (xx 8))) ∧ (Exa Z Z.heap (xx 8) "java/time/chrono/IsoChronology") ∧ (Sta Z Z.heap "java/time/temporal/ChronoField" "EPOCH_DAY" "Ljava/time/temporal/ChronoField;" (.ref (xx 9))) ∧ (Exa Z Z.heap (xx 9) "java/time/temporal/ChronoField") ∧ (Fld Z Z.heap (xx 9) "java/time/temporal/ChronoField" "range" "Ljava/time/temporal/ValueRange;" (.ref (xx 10))) ∧ (Exa Z Z.heap (xx 10) "java/time/temporal/ValueRange") ∧ (Fld Z Z.heap (xx 10) "java/time/temporal/ValueRange" "minSmallest" "J" (.long (-365243219162 : Int64))) ∧ (Fld Z Z.heap (xx 10) "java/time/temporal/ValueRange" "maxLargest" "J" (.long (365241780471 : Int64))) ∧ (own_Mir Z (xx 11)) ∧ (own_Lam Z (xx 12) (xx 13))
abbrev own_cR : String := "com/example/deferline/deferline/io/KeptState$Reader"
abbrev own_cL : String := "com/example/deferline/deferline/books/Ledger"
abbrev own_cF : String := "com/example/deferline/deferline/books/Folding"
abbrev own_cB : String := "com/example/deferline/deferline/books/AccountBooks"
abbrev own_cD : String := "java/time/LocalDate"
abbrev own_cA : String := "java/util/ArrayList"
abbrev own_dF : String := "Lcom/example/deferline/deferline/books/Folding;"
abbrev own_dB : String := "Lcom/example/deferline/deferline/books/AccountBooks;"
abbrev own_cK_ : String := "com/example/deferline/deferline/io/KeptState"
abbrev own_cW : String := "com/example/deferline/deferline/io/KeptState$Whole"
abbrev own_cV : String := "java/time/temporal/ValueRange"
abbrev own_cC : String := "java/time/temporal/ChronoField"
theorem own_w {Z : State} {a0 : Array Value} (hw : ∀ d ∈ tables_1, d.before a0 Z = true) (i : Nat) {d : Jvm.Cond} (h : tables_1[i]? = some d) : d.before a0 Z = true := hw d (List.mem_of_getElem? h)
abbrev own_I (x : Int32) : Slot := .val (.int x)
abbrev own_J (x : Int64) : Slot := .val (.long x)
abbrev own_R (x : Addr) : Slot := .val (.ref x)
abbrev own_N : Slot := .val .null
abbrev own_U : Slot := .unset
abbrev own_mt0 : MethodName := ⟨"com/example/deferline/deferline/books/LedgerCarriedPinLaw", "law", "(III)Z"⟩
abbrev own_mt1 : MethodName := ⟨"com/example/deferline/deferline/books/Ledger", "<init>", "()V"⟩
abbrev own_mt2 : MethodName := ⟨"com/example/deferline/deferline/books/Ledger", "<init>", "(Lcom/example/deferline/deferline/books/Folding;Lcom/example/deferline/deferline/books/Ledger$Posting;Lcom/example/deferline/deferline/books/Participant;Ljava/lang/String;)V"⟩
abbrev own_mt3 : MethodName := ⟨"java/lang/Object", "<init>", "()V"⟩
abbrev own_mt4 : MethodName := ⟨"com/example/deferline/deferline/io/KeptState$Reader", "<init>", "([BII)V"⟩
abbrev own_mt5 : MethodName := ⟨"java/util/ArrayList", "<init>", "()V"⟩
abbrev own_mt6 : MethodName := ⟨"java/util/AbstractList", "<init>", "()V"⟩
abbrev own_mt7 : MethodName := ⟨"java/util/AbstractCollection", "<init>", "()V"⟩
abbrev own_mt8 : MethodName := ⟨"com/example/deferline/deferline/books/Ledger", "restore", "(Lcom/example/deferline/deferline/io/KeptState$Reader;Lcom/example/deferline/deferline/books/LedgerEntry$Kept;)V"⟩
abbrev own_mt9 : MethodName := ⟨"com/example/deferline/deferline/io/KeptState$Reader", "count", "()I"⟩
abbrev own_mt10 : MethodName := ⟨"com/example/deferline/deferline/io/KeptState$Reader", "number", "()J"⟩
abbrev own_mt11 : MethodName := ⟨"com/example/deferline/deferline/io/KeptState$Reader", "next", "()B"⟩
abbrev own_mt12 : MethodName := ⟨"com/example/deferline/deferline/io/KeptState$Reader", "flag", "()Z"⟩
abbrev own_mt13 : MethodName := ⟨"com/example/deferline/deferline/io/KeptState$Reader", "date", "()Ljava/time/LocalDate;"⟩
abbrev own_mt14 : MethodName := ⟨"com/example/deferline/deferline/io/KeptState$Reader", "once", "(Ljava/lang/Class;Lcom/example/deferline/deferline/io/KeptState$Whole;)Ljava/lang/Object;"⟩
abbrev own_mt15 : MethodName := ⟨"com/example/deferline/deferline/books/Ledger", "epochDay", "(Ljava/time/LocalDate;)J"⟩
abbrev own_mt16 : MethodName := ⟨"com/example/deferline/deferline/books/Ledger", "carried", "()Lcom/example/deferline/deferline/books/AccountBooks;"⟩
abbrev own_mt17 : MethodName := ⟨"com/example/deferline/deferline/books/Folding", "<init>", "(Ljava/time/LocalDate;Lcom/example/deferline/deferline/market/Funds;Lcom/example/deferline/deferline/market/TradingCalendar;)V"⟩
abbrev own_mt18 : MethodName := ⟨"java/util/Set", "of", "()Ljava/util/Set;"⟩
abbrev own_mt19 : MethodName := ⟨"com/example/deferline/deferline/books/Folding", "<init>", "(Ljava/time/LocalDate;Lcom/example/deferline/deferline/market/Funds;Lcom/example/deferline/deferline/market/TradingCalendar;Ljava/util/Set;)V"⟩
abbrev own_mt20 : MethodName := ⟨"com/example/deferline/deferline/io/KeptState$Reader", "wholeDate", "()Ljava/time/LocalDate;"⟩
abbrev own_mt21 : MethodName := ⟨"com/example/deferline/deferline/io/KeptState", "unzigzag", "(J)J"⟩
abbrev own_mt22 : MethodName := ⟨"java/time/LocalDate", "toEpochDay", "()J"⟩
abbrev own_mt23 : MethodName := ⟨"java/time/LocalDate", "isLeapYear", "()Z"⟩
abbrev own_mt24 : MethodName := ⟨"java/time/chrono/IsoChronology", "isLeapYear", "(J)Z"⟩
abbrev own_mt25 : MethodName := ⟨"java/time/LocalDate", "ofEpochDay", "(J)Ljava/time/LocalDate;"⟩
abbrev own_mt26 : MethodName := ⟨"java/time/temporal/ChronoField", "checkValidValue", "(J)J"⟩
abbrev own_mt27 : MethodName := ⟨"java/time/temporal/ChronoField", "range", "()Ljava/time/temporal/ValueRange;"⟩
abbrev own_mt28 : MethodName := ⟨"java/time/temporal/ValueRange", "checkValidValue", "(JLjava/time/temporal/TemporalField;)J"⟩
abbrev own_mt29 : MethodName := ⟨"java/time/temporal/ValueRange", "isValidValue", "(J)Z"⟩
abbrev own_mt30 : MethodName := ⟨"java/time/temporal/ValueRange", "getMinimum", "()J"⟩
abbrev own_mt31 : MethodName := ⟨"java/time/temporal/ValueRange", "getMaximum", "()J"⟩
abbrev own_mt32 : MethodName := ⟨"java/time/LocalDate", "<init>", "(III)V"⟩
abbrev own_mt33 : MethodName := ⟨"java/util/ArrayList", "add", "(Ljava/lang/Object;)Z"⟩
abbrev own_mt34 : MethodName := ⟨"java/util/ArrayList", "add", "(Ljava/lang/Object;[Ljava/lang/Object;I)V"⟩
abbrev own_mt35 : MethodName := ⟨"java/util/ArrayList", "grow", "()[Ljava/lang/Object;"⟩
abbrev own_mt36 : MethodName := ⟨"java/util/ArrayList", "grow", "(I)[Ljava/lang/Object;"⟩
abbrev own_mt37 : MethodName := ⟨"java/lang/Math", "max", "(II)I"⟩
abbrev own_mt38 : MethodName := ⟨"com/example/deferline/deferline/books/Folding", "newBooks", "()Lcom/example/deferline/deferline/books/AccountBooks;"⟩
abbrev own_mt39 : MethodName := ⟨"com/example/deferline/deferline/books/AccountBooks", "<init>", "(Lcom/example/deferline/deferline/market/Funds;Lcom/example/deferline/deferline/market/TradingCalendar;)V"⟩
abbrev own_mt40 : MethodName := ⟨"java/util/List", "of", "()Ljava/util/List;"⟩
abbrev own_mt41 : MethodName := ⟨"com/example/deferline/deferline/books/AccountBooks", "restore", "(Lcom/example/deferline/deferline/io/KeptState$Reader;)V"⟩
abbrev oB1 : ByteArray := prog_11_method_1_code
abbrev oB2 : ByteArray := prog_11_method_2_code
abbrev oB3 : ByteArray := object_method_1_code
abbrev oB4 : ByteArray := prog_38_method_1_code
abbrev oB5 : ByteArray := jdk_38_method_2_code
abbrev oB6 : ByteArray := jdk_39_method_1_code
abbrev oB7 : ByteArray := jdk_22_method_1_code
abbrev oB8 : ByteArray := prog_11_method_3_code
abbrev oB9 : ByteArray := prog_38_method_3_code
abbrev oB10 : ByteArray := prog_38_method_2_code
abbrev oB11 : ByteArray := prog_38_method_13_code
abbrev oB12 : ByteArray := prog_38_method_4_code
abbrev oB13 : ByteArray := prog_38_method_7_code
abbrev oB14 : ByteArray := prog_38_method_9_code
abbrev oB15 : ByteArray := prog_11_method_31_code
abbrev oB16 : ByteArray := prog_11_method_14_code
abbrev oB17 : ByteArray := prog_10_method_1_code
abbrev oB18 : ByteArray := jdk_96_method_17_code
abbrev oB19 : ByteArray := prog_10_method_2_code
abbrev oB20 : ByteArray := prog_38_method_11_code
abbrev oB21 : ByteArray := prog_37_method_3_code
abbrev oB22 : ByteArray := jdk_2323_method_67_code
abbrev oB23 : ByteArray := jdk_2323_method_30_code
abbrev oB24 : ByteArray := jdk_2369_method_18_code
abbrev oB25 : ByteArray := jdk_2323_method_8_code
abbrev oB26 : ByteArray := jdk_2395_method_11_code
abbrev oB27 : ByteArray := jdk_2395_method_8_code
abbrev oB28 : ByteArray := jdk_2423_method_13_code
abbrev oB29 : ByteArray := jdk_2423_method_11_code
abbrev oB30 : ByteArray := jdk_2423_method_6_code
abbrev oB31 : ByteArray := jdk_2423_method_9_code
abbrev oB32 : ByteArray := jdk_2323_method_14_code
abbrev oB33 : ByteArray := jdk_38_method_25_code
abbrev oB34 : ByteArray := jdk_38_method_24_code
abbrev oB35 : ByteArray := jdk_38_method_7_code
abbrev oB36 : ByteArray := jdk_38_method_6_code
abbrev oB37 : ByteArray := jdk_29_method_65_code
abbrev oB38 : ByteArray := prog_10_method_9_code
abbrev oB39 : ByteArray := prog_5_method_1_code
abbrev oB40 : ByteArray := jdk_40_method_36_code
abbrev oB41 : ByteArray := prog_5_method_9_code
theorem d7_0 : decode jdk_22_method_1_code 0 = .ok (.aload_n 0, 1) := by decide +kernel
theorem d7_1 : decode jdk_22_method_1_code 1 = .ok (.invokespecial 1, 3) := by decide +kernel
theorem d7_4 : decode jdk_22_method_1_code 4 = .ok (.return_, 1) := by decide +kernel
theorem pn_7 : plainName "java/util/AbstractCollection" = true := by first | (simp [plainName, overriddenIn]; done) | decide +kernel
theorem ef_7 (m : MethodId) (x0 : Addr) : entryFrame m #[(.ref x0)] 1 = mkF m 0 #[own_R x0] [] := by first | (simp [entryFrame, mkF, argsToLocals, Value.category]; done) | rfl
def Q7 (Z : State) (a1 : Addr) (h0 : Heap) (n0 : Nat) (v : Option Value) (h : Heap) (L : List Loc) : Prop := v = none ∧ Fr n0 L ∧ h = h0
set_option maxRecDepth 65536 in
set_option maxHeartbeats 40000000 in
theorem rm7 (l : Launch) (Z : State) (a0 : Array Value) (hw : ∀ d ∈ tables_1, d.before a0 Z = true) (ws : List Jvm.Cond) (a1 : Addr) (h0 : Heap) (n0 : Nat) (Z0 : n0 ≤ h0.size)  :
    MetFree l (⟨"java/util/AbstractCollection", "<init>", "()V"⟩ : MethodName) (head1 (Jvm.Cond.code (⟨"java/util/AbstractCollection", "<init>", "()V"⟩ : MethodName) jdk_22_method_1_code 1 none :: ws) ({ frames := 1, cells := 0, slots := 0, locals := 12 } : Room)) (fun a U => a = #[(.ref a1)] ∧ Z.Warmed39 U.vm ∧ U.heap = h0) (fun _ _ _ _ _ => True) (fun _ U o U' => ∃ v L, o = .returned v ∧ Q7 Z a1 h0 n0 v U'.heap L ∧ FrameEnd U o U' L ({ frames := 1, cells := 0, slots := 0, locals := 12 } : Room).cells ({ frames := 1, cells := 0, slots := 0, locals := 12 } : Room).slots) := by
  refine MetFree.of_bodySF (plainFor_of_name pn_7) hisR ?_
  intro p e s m args below meth c s₁ Bd hml0 hP hK
  obtain ⟨rfl, hZ, hh⟩ := hP
  have hx := Bd.exec
  have hby := Bd.bytes
  have hml : c.maxLocals = 1 := hml0
  have hown : s.vm.findClass "java/util/AbstractCollection" = some m.cls := findClass_of_methodNamed Bd.named
  have hnm := (name_of_methodNamed Bd.named Bd.method).1
  have X0 : Stand p l e ({ frames := 1, cells := 0, slots := 0, locals := 12 } : Room) s m #[(.ref a1)] below meth c s₁ [] 0 0 := Stand.of_body Bd
  have e0 : s₁.heap = h0 := by rw [← hh, Bd.state]; rfl
  have N0 := Fr.nil n0
  suffices G0 : ∀ K : State → Prop, (∀ (n : State) (v : Option Value) (L : List Loc), n.status = .running → Ended n below (.returned v) → Q7 Z a1 h0 n0 v n.heap L → FrameEnd s (.returned v) n L ({ frames := 1, cells := 0, slots := 0, locals := 12 } : Room).cells ({ frames := 1, cells := 0, slots := 0, locals := 12 } : Room).slots → K n) → own_Go p e below K (s₁.setTop (mkF m 0 #[own_R a1] [])) by
    obtain ⟨t, st, o, a, b, v, L, e1, q, fe⟩ := G0 (fun n => ∃ o, n.status = .running ∧ Ended n below o ∧ ∃ v L, o = .returned v ∧ Q7 Z a1 h0 n0 v n.heap L ∧ FrameEnd s o n L ({ frames := 1, cells := 0, slots := 0, locals := 12 } : Room).cells ({ frames := 1, cells := 0, slots := 0, locals := 12 } : Room).slots) (fun n v L a b q f => ⟨_, a, b, v, L, rfl, q, f⟩)
    exact ⟨t, o, castTop (ef_7 m a1) st, a, b, v, L, e1, q, fe⟩
  intro K fin
  show own_Go p e below K (s₁.setTop (mkF m 0 #[own_R a1] []))
  refine own_st (fun t k => XS.aloadN X0.here hx rfl (hb hby d7_0) rfl rfl k) ?_
  show own_Go p e below K (s₁.setTop (mkF m 1 #[own_R a1] [(.ref a1)]))
  obtain ⟨T1, X1, e1, st1⟩ := initO X0 hx hZ hown (hw _ (List.mem_of_getElem? (i := 64) rfl)) (hw _ (List.mem_of_getElem? (i := 12) rfl)) (hw _ (List.mem_of_getElem? (i := 13) rfl)) e0 (g := (mkF m 1 #[own_R a1] [(.ref a1)])) rfl (by rw [hml]; rfl) rfl (hb hby d7_1) (by decide) (W := 0) (by show 2 * 0 + _ ≤ _; exact Nat.le_of_eq rfl) (by decide)
  refine own_st st1 ?_
  show own_Go p e below K (T1.setTop (mkF m 4 #[own_R a1] []))
  try clear st1
  obtain ⟨fs, hr, hrun, hended, hW, hsame⟩ := X1.leave (v := none) (fun _ => rfl)
  refine ⟨_, X1.returnOut hx Bd.returns (hb hby d7_4) hr, fin _ _ _ hrun hended ?_ ⟨⟨_, rfl⟩, hW, hsame.mono (by decide) (by decide)⟩⟩
  show Q7 Z a1 h0 n0 _ T1.heap _
  rw [e1]
  exact ⟨rfl, N0, rfl⟩
theorem d6_0 : decode jdk_39_method_1_code 0 = .ok (.aload_n 0, 1) := by decide +kernel
theorem d6_1 : decode jdk_39_method_1_code 1 = .ok (.invokespecial 1, 3) := by decide +kernel
theorem d6_4 : decode jdk_39_method_1_code 4 = .ok (.aload_n 0, 1) := by decide +kernel
theorem d6_5 : decode jdk_39_method_1_code 5 = .ok (.iconst 0, 1) := by decide +kernel
theorem d6_6 : decode jdk_39_method_1_code 6 = .ok (.putfield 7, 3) := by decide +kernel
theorem d6_9 : decode jdk_39_method_1_code 9 = .ok (.return_, 1) := by decide +kernel
theorem pn_6 : plainName "java/util/AbstractList" = true := by first | (simp [plainName, overriddenIn]; done) | decide +kernel
theorem pd_6_0 : parseMethodDescriptor "()V" = some ⟨[], none⟩ := by decide +kernel
theorem ef_6 (m : MethodId) (x0 : Addr) : entryFrame m #[(.ref x0)] 1 = mkF m 0 #[own_R x0] [] := by first | (simp [entryFrame, mkF, argsToLocals, Value.category]; done) | rfl
def Q6 (Z : State) (a1 : Addr) (h0 : Heap) (n0 : Nat) (v : Option Value) (h : Heap) (L : List Loc) : Prop := v = none ∧ Fr n0 L ∧ Keep h0 h [a1] ∧ (Exa Z h a1 "java/util/ArrayList") ∧ (Fld Z h a1 "java/util/ArrayList" "elementData" "[Ljava/lang/Object;" .null) ∧ (Fld Z h a1 "java/util/AbstractList" "modCount" "I" (.int (0 : Int32))) ∧ (Fld Z h a1 "java/util/ArrayList" "size" "I" (.int (0 : Int32)))
set_option maxRecDepth 65536 in
set_option maxHeartbeats 40000000 in
theorem rm6 (l : Launch) (Z : State) (a0 : Array Value) (hw : ∀ d ∈ tables_1, d.before a0 Z = true) (ws : List Jvm.Cond) (a1 : Addr) (h0 : Heap) (n0 : Nat) (Z0 : n0 ≤ h0.size) (g_a1 : n0 ≤ a1) (P0 : Exa Z h0 a1 "java/util/ArrayList") (P1 : Fld Z h0 a1 "java/util/ArrayList" "elementData" "[Ljava/lang/Object;" .null) (P2 : Fld Z h0 a1 "java/util/AbstractList" "modCount" "I" (.int (0 : Int32))) (P3 : Fld Z h0 a1 "java/util/ArrayList" "size" "I" (.int (0 : Int32))) :
    MetFree l (⟨"java/util/AbstractList", "<init>", "()V"⟩ : MethodName) (head1 (Jvm.Cond.code (⟨"java/util/AbstractList", "<init>", "()V"⟩ : MethodName) jdk_39_method_1_code 1 none :: ws) ({ frames := 2, cells := 0, slots := 0, locals := 24 } : Room)) (fun a U => a = #[(.ref a1)] ∧ Z.Warmed39 U.vm ∧ U.heap = h0) (fun _ _ _ _ _ => True) (fun _ U o U' => ∃ v L, o = .returned v ∧ Q6 Z a1 h0 n0 v U'.heap L ∧ FrameEnd U o U' L ({ frames := 2, cells := 0, slots := 0, locals := 24 } : Room).cells ({ frames := 2, cells := 0, slots := 0, locals := 24 } : Room).slots) := by
  refine MetFree.of_bodySF (plainFor_of_name pn_6) hisR ?_
  intro p e s m args below meth c s₁ Bd hml0 hP hK
  obtain ⟨rfl, hZ, hh⟩ := hP
  have hx := Bd.exec
  have hby := Bd.bytes
  have hml : c.maxLocals = 1 := hml0
  have hown : s.vm.findClass "java/util/AbstractList" = some m.cls := findClass_of_methodNamed Bd.named
  have hnm := (name_of_methodNamed Bd.named Bd.method).1
  have X0 : Stand p l e ({ frames := 2, cells := 0, slots := 0, locals := 24 } : Room) s m #[(.ref a1)] below meth c s₁ [] 0 0 := Stand.of_body Bd
  have e0 : s₁.heap = h0 := by rw [← hh, Bd.state]; rfl
  have N0 := Fr.nil n0
  suffices G0 : ∀ K : State → Prop, (∀ (n : State) (v : Option Value) (L : List Loc), n.status = .running → Ended n below (.returned v) → Q6 Z a1 h0 n0 v n.heap L → FrameEnd s (.returned v) n L ({ frames := 2, cells := 0, slots := 0, locals := 24 } : Room).cells ({ frames := 2, cells := 0, slots := 0, locals := 24 } : Room).slots → K n) → own_Go p e below K (s₁.setTop (mkF m 0 #[own_R a1] [])) by
    obtain ⟨t, st, o, a, b, v, L, e1, q, fe⟩ := G0 (fun n => ∃ o, n.status = .running ∧ Ended n below o ∧ ∃ v L, o = .returned v ∧ Q6 Z a1 h0 n0 v n.heap L ∧ FrameEnd s o n L ({ frames := 2, cells := 0, slots := 0, locals := 24 } : Room).cells ({ frames := 2, cells := 0, slots := 0, locals := 24 } : Room).slots) (fun n v L a b q f => ⟨_, a, b, v, L, rfl, q, f⟩)
    exact ⟨t, o, castTop (ef_6 m a1) st, a, b, v, L, e1, q, fe⟩
  intro K fin
  show own_Go p e below K (s₁.setTop (mkF m 0 #[own_R a1] []))
  refine own_st (fun t k => XS.aloadN X0.here hx rfl (hb hby d6_0) rfl rfl k) ?_
  show own_Go p e below K (s₁.setTop (mkF m 1 #[own_R a1] [(.ref a1)]))
  obtain ⟨_, _, ⟨T1, L1, k1, n1⟩, -, X1, ⟨Lc1, hQ1, l1, y1, z1⟩, st1⟩ := X0.specialBack hx (y := (⟨"java/util/AbstractCollection", "<init>", "()V"⟩ : MethodName)) rfl hown (mvT hZ (hw _ (List.mem_of_getElem? (i := 58) rfl))) (mvT hZ (hw _ (List.mem_of_getElem? (i := 59) rfl))) (mvT hZ (hw _ (List.mem_of_getElem? (i := 63) rfl))) (by decide) (backOf (W := 0) (rm7 l Z a0 hw [] a1 h0 n0 Z0) hZ (hw _ (List.mem_of_getElem? (i := 63) rfl)) (hw _ (List.mem_of_getElem? (i := 62) rfl)) (by decide) (by decide)) (g := (mkF m 1 #[own_R a1] [(.ref a1)])) rfl (by rw [hml]; rfl) (Steps.refl _) (a := a1) (argsL := []) (rest := []) (lenOf pd_6_0 rfl) rfl (by show 2 * 0 + _ ≤ _; exact Nat.le_of_eq rfl) (hb hby d6_1) (fun _ _ => ⟨rfl, e0, (by decide : 0 + 0 ≤ _), (by decide : 0 + 0 ≤ _)⟩)
  dsimp only [Pt.U, Pt.locs, Pt.cells, Pt.slots] at X1 l1 y1 z1 st1 hQ1
  obtain ⟨rfl, N1q, e1⟩ := hQ1
  have N1 : Fr n0 L1 := by rw [l1]; exact Fr.app N0 N1q
  clear l1
  have y1' : k1 = 0 := y1
  have z1' : n1 = 0 := z1
  clear y1 z1
  subst y1' z1'
  refine own_tr st1 ?_
  show own_Go p e below K (T1.setTop (mkF m 4 #[own_R a1] []))
  try clear st1 N1q
  refine own_st (fun t k => XS.aloadN X1.here hx rfl (hb hby d6_4) rfl rfl k) ?_
  show own_Go p e below K (T1.setTop (mkF m 5 #[own_R a1] [(.ref a1)]))
  refine own_st (fun t k => XS.iconst X1.here hx rfl (hb hby d6_5) k) ?_
  show own_Go p e below K (T1.setTop (mkF m 6 #[own_R a1] [(.int (0 : Int32)), (.ref a1)]))
  obtain ⟨T2, h2, X2, e2, W2, st2⟩ := putF X1 hx hZ hown (host := "") (Or.inl (hw _ (List.mem_of_getElem? (i := 65) rfl))) Via.refl e1 P2 P0 (Or.inl (hw _ (List.mem_of_getElem? (i := 66) rfl))) (hw _ (List.mem_of_getElem? (i := 47) rfl)) (ty := .int) (by decide) rfl rfl (g := (mkF m 6 #[own_R a1] [(.int (0 : Int32)), (.ref a1)])) rfl rfl (hb hby d6_6)
  have fw2 : Fld Z h2 a1 "java/util/AbstractList" "modCount" "I" (.int (0 : Int32)) := P2.same W2
  have f3 : Exa Z h2 a1 "java/util/ArrayList" := P0.wr W2
  have f4 : Fld Z h2 a1 "java/util/ArrayList" "elementData" "[Ljava/lang/Object;" .null := P1.other W2 (Or.inr (slot_ne (Or.inl (hw _ (List.mem_of_getElem? (i := 69) rfl))) (Or.inl (hw _ (List.mem_of_getElem? (i := 66) rfl))) (by decide) (t := (.array (.object "java/lang/Object"))) (t' := .int) (by decide) (by decide)))
  have f5 : Fld Z h2 a1 "java/util/ArrayList" "size" "I" (.int (0 : Int32)) := P3.other W2 (Or.inr (slot_ne (Or.inl (hw _ (List.mem_of_getElem? (i := 281) rfl))) (Or.inl (hw _ (List.mem_of_getElem? (i := 66) rfl))) (by decide) (t := .int) (t' := .int) (by decide) (by decide)))
  have N2 := Fr.snoc X2 N1 g_a1
  have Z2 : n0 ≤ h2.size := Nat.le_trans Z0 (Keep.of_wr W2).1
  have K2 : Keep h0 h2 [a1] := (Keep.refl h0 [a1]).wr W2 (Or.inl (List.mem_of_getElem? (i := 0) rfl))
  refine own_st st2 ?_
  show own_Go p e below K (T2.setTop (mkF m 9 #[own_R a1] []))
  try clear X1 e1 st2 P0 P1 P3
  obtain ⟨fs, hr, hrun, hended, hW, hsame⟩ := X2.leave (v := none) (fun _ => rfl)
  refine ⟨_, X2.returnOut hx Bd.returns (hb hby d6_9) hr, fin _ _ _ hrun hended ?_ ⟨⟨_, rfl⟩, hW, hsame.mono (by decide) (by decide)⟩⟩
  show Q6 Z a1 h0 n0 _ T2.heap _
  rw [e2]
  exact ⟨rfl, N2, K2, f3, f4, fw2, f5⟩
theorem d5_0 : decode jdk_38_method_2_code 0 = .ok (.aload_n 0, 1) := by decide +kernel
theorem d5_1 : decode jdk_38_method_2_code 1 = .ok (.invokespecial 1, 3) := by decide +kernel
theorem d5_4 : decode jdk_38_method_2_code 4 = .ok (.aload_n 0, 1) := by decide +kernel
theorem d5_5 : decode jdk_38_method_2_code 5 = .ok (.getstatic 39, 3) := by decide +kernel
theorem d5_8 : decode jdk_38_method_2_code 8 = .ok (.putfield 9, 3) := by decide +kernel
theorem d5_11 : decode jdk_38_method_2_code 11 = .ok (.return_, 1) := by decide +kernel
theorem pn_5 : plainName "java/util/ArrayList" = true := by first | (simp [plainName, overriddenIn]; done) | decide +kernel
theorem pd_5_0 : parseMethodDescriptor "()V" = some ⟨[], none⟩ := by decide +kernel
theorem ef_5 (m : MethodId) (x0 : Addr) : entryFrame m #[(.ref x0)] 1 = mkF m 0 #[own_R x0] [] := by first | (simp [entryFrame, mkF, argsToLocals, Value.category]; done) | rfl
def Q5 (Z : State) (a1 : Addr) (xd : Addr) (h0 : Heap) (n0 : Nat) (v : Option Value) (h : Heap) (L : List Loc) : Prop := v = none ∧ Fr n0 L ∧ Keep h0 h [a1] ∧ (Exa Z h a1 "java/util/ArrayList") ∧ (Fld Z h a1 "java/util/ArrayList" "elementData" "[Ljava/lang/Object;" (.ref xd)) ∧ (Fld Z h a1 "java/util/AbstractList" "modCount" "I" (.int (0 : Int32))) ∧ (Fld Z h a1 "java/util/ArrayList" "size" "I" (.int (0 : Int32)))
set_option maxRecDepth 65536 in
set_option maxHeartbeats 40000000 in
theorem rm5 (l : Launch) (Z : State) (a0 : Array Value) (hw : ∀ d ∈ tables_1, d.before a0 Z = true) (ws : List Jvm.Cond) (a1 : Addr) (xd : Addr) (h0 : Heap) (n0 : Nat) (Z0 : n0 ≤ h0.size) (g_a1 : n0 ≤ a1) (P0 : Exa Z h0 a1 "java/util/ArrayList") (P1 : Fld Z h0 a1 "java/util/ArrayList" "elementData" "[Ljava/lang/Object;" .null) (P2 : Fld Z h0 a1 "java/util/AbstractList" "modCount" "I" (.int (0 : Int32))) (P3 : Fld Z h0 a1 "java/util/ArrayList" "size" "I" (.int (0 : Int32))) (P4 : Old Z n0 h0) (SD : Sta Z Z.heap "java/util/ArrayList" "DEFAULTCAPACITY_EMPTY_ELEMENTDATA" "[Ljava/lang/Object;" (.ref xd)) :
    MetFree l (⟨"java/util/ArrayList", "<init>", "()V"⟩ : MethodName) (head1 (Jvm.Cond.code (⟨"java/util/ArrayList", "<init>", "()V"⟩ : MethodName) jdk_38_method_2_code 1 none :: ws) ({ frames := 3, cells := 0, slots := 0, locals := 36 } : Room)) (fun a U => a = #[(.ref a1)] ∧ Z.Warmed39 U.vm ∧ U.heap = h0) (fun _ _ _ _ _ => True) (fun _ U o U' => ∃ v L, o = .returned v ∧ Q5 Z a1 xd h0 n0 v U'.heap L ∧ FrameEnd U o U' L ({ frames := 3, cells := 0, slots := 0, locals := 36 } : Room).cells ({ frames := 3, cells := 0, slots := 0, locals := 36 } : Room).slots) := by
  refine MetFree.of_bodySF (plainFor_of_name pn_5) hisR ?_
  intro p e s m args below meth c s₁ Bd hml0 hP hK
  obtain ⟨rfl, hZ, hh⟩ := hP
  have hx := Bd.exec
  have hby := Bd.bytes
  have hml : c.maxLocals = 1 := hml0
  have hown : s.vm.findClass "java/util/ArrayList" = some m.cls := findClass_of_methodNamed Bd.named
  have hnm := (name_of_methodNamed Bd.named Bd.method).1
  have X0 : Stand p l e ({ frames := 3, cells := 0, slots := 0, locals := 36 } : Room) s m #[(.ref a1)] below meth c s₁ [] 0 0 := Stand.of_body Bd
  have e0 : s₁.heap = h0 := by rw [← hh, Bd.state]; rfl
  have N0 := Fr.nil n0
  suffices G0 : ∀ K : State → Prop, (∀ (n : State) (v : Option Value) (L : List Loc), n.status = .running → Ended n below (.returned v) → Q5 Z a1 xd h0 n0 v n.heap L → FrameEnd s (.returned v) n L ({ frames := 3, cells := 0, slots := 0, locals := 36 } : Room).cells ({ frames := 3, cells := 0, slots := 0, locals := 36 } : Room).slots → K n) → own_Go p e below K (s₁.setTop (mkF m 0 #[own_R a1] [])) by
    obtain ⟨t, st, o, a, b, v, L, e1, q, fe⟩ := G0 (fun n => ∃ o, n.status = .running ∧ Ended n below o ∧ ∃ v L, o = .returned v ∧ Q5 Z a1 xd h0 n0 v n.heap L ∧ FrameEnd s o n L ({ frames := 3, cells := 0, slots := 0, locals := 36 } : Room).cells ({ frames := 3, cells := 0, slots := 0, locals := 36 } : Room).slots) (fun n v L a b q f => ⟨_, a, b, v, L, rfl, q, f⟩)
    exact ⟨t, o, castTop (ef_5 m a1) st, a, b, v, L, e1, q, fe⟩
  intro K fin
  show own_Go p e below K (s₁.setTop (mkF m 0 #[own_R a1] []))
  refine own_st (fun t k => XS.aloadN X0.here hx rfl (hb hby d5_0) rfl rfl k) ?_
  show own_Go p e below K (s₁.setTop (mkF m 1 #[own_R a1] [(.ref a1)]))
  obtain ⟨_, _, ⟨T1, L1, k1, n1⟩, -, X1, ⟨Lc1, hQ1, l1, y1, z1⟩, st1⟩ := X0.specialBack hx (y := (⟨"java/util/AbstractList", "<init>", "()V"⟩ : MethodName)) rfl hown (mvT hZ (hw _ (List.mem_of_getElem? (i := 52) rfl))) (mvT hZ (hw _ (List.mem_of_getElem? (i := 53) rfl))) (mvT hZ (hw _ (List.mem_of_getElem? (i := 57) rfl))) (by decide) (backOf (W := 0) (rm6 l Z a0 hw [] a1 h0 n0 Z0 g_a1 P0 P1 P2 P3) hZ (hw _ (List.mem_of_getElem? (i := 57) rfl)) (hw _ (List.mem_of_getElem? (i := 56) rfl)) (by decide) (by decide)) (g := (mkF m 1 #[own_R a1] [(.ref a1)])) rfl (by rw [hml]; rfl) (Steps.refl _) (a := a1) (argsL := []) (rest := []) (lenOf pd_5_0 rfl) rfl (by show 2 * 0 + _ ≤ _; exact Nat.le_of_eq rfl) (hb hby d5_1) (fun _ _ => ⟨rfl, e0, (by decide : 0 + 0 ≤ _), (by decide : 0 + 0 ≤ _)⟩)
  dsimp only [Pt.U, Pt.locs, Pt.cells, Pt.slots] at X1 l1 y1 z1 st1 hQ1
  obtain ⟨rfl, N1q, Kq1, p1_0, p1_1, p1_2, p1_3⟩ := hQ1
  have N1 : Fr n0 L1 := by rw [l1]; exact Fr.app N0 N1q
  clear l1
  have y1' : k1 = 0 := y1
  have z1' : n1 = 0 := z1
  clear y1 z1
  subst y1' z1'
  have f2 : Old Z n0 T1.heap := P4.keep Kq1 (allS (P := fun x => n0 ≤ x) g_a1 all0)
  have Z1 : n0 ≤ T1.heap.size := Nat.le_trans Z0 Kq1.1
  have K1 : Keep h0 T1.heap [a1] := (Keep.refl h0 [a1]).trans Kq1 (allS (P := fun x => x ∈ [a1] ∨ h0.size ≤ x) (Or.inl (List.mem_of_getElem? (i := 0) rfl)) all0)
  refine own_tr st1 ?_
  show own_Go p e below K (T1.setTop (mkF m 4 #[own_R a1] []))
  try clear st1 N1q P4
  refine own_st (fun t k => XS.aloadN X1.here hx rfl (hb hby d5_4) rfl rfl k) ?_
  show own_Go p e below K (T1.setTop (mkF m 5 #[own_R a1] [(.ref a1)]))
  obtain ⟨T3, X3, e3, st3⟩ := getS2 X1 hx hZ hown (host := "") (Or.inl (hw _ (List.mem_of_getElem? (i := 67) rfl))) Via.refl rfl (SD.ext f2.2) (g := (mkF m 5 #[own_R a1] [(.ref a1)])) rfl (hb hby d5_5)
  refine own_st st3 ?_
  show own_Go p e below K (T3.setTop (mkF m 8 #[own_R a1] [(.ref xd), (.ref a1)]))
  try clear X1 st3
  obtain ⟨T4, h4, X4, e4, W4, st4⟩ := putF X3 hx hZ hown (host := "") (Or.inl (hw _ (List.mem_of_getElem? (i := 68) rfl))) Via.refl e3 p1_1 p1_0 (Or.inl (hw _ (List.mem_of_getElem? (i := 69) rfl))) (hw _ (List.mem_of_getElem? (i := 47) rfl)) (ty := (.array (.object "java/lang/Object"))) (by decide) rfl rfl (g := (mkF m 8 #[own_R a1] [(.ref xd), (.ref a1)])) rfl rfl (hb hby d5_8)
  have fw4 : Fld Z h4 a1 "java/util/ArrayList" "elementData" "[Ljava/lang/Object;" (.ref xd) := p1_1.same W4
  have f5 : Old Z n0 h4 := f2.wr W4 g_a1
  have f6 : Exa Z h4 a1 "java/util/ArrayList" := p1_0.wr W4
  have f7 : Fld Z h4 a1 "java/util/AbstractList" "modCount" "I" (.int (0 : Int32)) := p1_2.other W4 (Or.inr (slot_ne (Or.inl (hw _ (List.mem_of_getElem? (i := 66) rfl))) (Or.inl (hw _ (List.mem_of_getElem? (i := 69) rfl))) (by decide) (t := .int) (t' := (.array (.object "java/lang/Object"))) (by decide) (by decide)))
  have f8 : Fld Z h4 a1 "java/util/ArrayList" "size" "I" (.int (0 : Int32)) := p1_3.other W4 (Or.inr (slot_ne (Or.inl (hw _ (List.mem_of_getElem? (i := 281) rfl))) (Or.inl (hw _ (List.mem_of_getElem? (i := 69) rfl))) (by decide) (t := .int) (t' := (.array (.object "java/lang/Object"))) (by decide) (by decide)))
  have N4 := Fr.snoc X4 N1 g_a1
  have Z4 : n0 ≤ h4.size := Nat.le_trans Z1 (Keep.of_wr W4).1
  have K4 : Keep h0 h4 [a1] := K1.wr W4 (Or.inl (List.mem_of_getElem? (i := 0) rfl))
  refine own_st st4 ?_
  show own_Go p e below K (T4.setTop (mkF m 11 #[own_R a1] []))
  try clear X3 e3 st4 f2 p1_0 p1_2 p1_3
  obtain ⟨fs, hr, hrun, hended, hW, hsame⟩ := X4.leave (v := none) (fun _ => rfl)
  refine ⟨_, X4.returnOut hx Bd.returns (hb hby d5_11) hr, fin _ _ _ hrun hended ?_ ⟨⟨_, rfl⟩, hW, hsame.mono (by decide) (by decide)⟩⟩
  show Q5 Z a1 xd h0 n0 _ T4.heap _
  rw [e4]
  exact ⟨rfl, N4, K4, f6, fw4, f7, f8⟩
theorem d37_0 : decode oB37 0 = .ok (.iload_n 0, 1) := by decide +kernel
theorem d37_1 : decode oB37 1 = .ok (.iload_n 1, 1) := by decide +kernel
theorem d37_2 : decode oB37 2 = .ok (.if_icmp .lt 7, 3) := by decide +kernel
theorem d37_5 : decode oB37 5 = .ok (.iload_n 0, 1) := by decide +kernel
theorem d37_6 : decode oB37 6 = .ok (.goto 4, 3) := by decide +kernel
theorem d37_10 : decode oB37 10 = .ok (.ireturn, 1) := by decide +kernel
theorem ef_37 (m : MethodId) (x0 : Int32) (x1 : Int32) : entryFrame m #[(.int x0), (.int x1)] 2 = mkF m 0 #[own_I x0, own_I x1] [] := by first | (simp [entryFrame, mkF, argsToLocals, Value.category]; done) | rfl
def Q37 (Z : State)  (h0 : Heap) (n0 : Nat) (v : Option Value) (h : Heap) (L : List Loc) : Prop := v = some (.int 10) ∧ Fr n0 L ∧ h = h0
theorem rm37 (l : Launch) (Z : State) (a0 : Array Value) (hw : ∀ d ∈ tables_1, d.before a0 Z = true) (ws_ : List Jvm.Cond)  (h0 : Heap) (n0 : Nat) (Z0 : n0 ≤ h0.size)  :
    own_Met l own_mt37 oB37 2 (some .int) ws_ ({ frames := 0, cells := 0, slots := 0, locals := 0 } : Room) #[(.int 10), (.int 1)] Z h0 (Q37 Z h0 n0) := by
  refine own_met n0 (Jvm.Free.JP.mathPlain rfl (by decide +kernel)) (fun m => ef_37 m (10 : Int32) (1 : Int32)) ?_
  intro p e s m below meth c s₁ Bd hZ hx hby hml hown' hnm X0 e0 N0 K fin
  have hown : s.vm.findClass "java/lang/Math" = some m.cls := hown'
  show own_Go p e below K (s₁.setTop (mkF m 0 #[own_I 10, own_I 1] []))
  refine own_xiloadN X0 hx hby d37_0 rfl ?_
  refine own_xiloadN X0 hx hby d37_1 rfl ?_
  refine own_xicmpNo X0 hx hby d37_2 (flt (by decide : ¬ ((10 : Int32) < (1 : Int32)))).1 ?_
  refine own_xiloadN X0 hx hby d37_5 rfl ?_
  refine own_xgoto X0 hx hby d37_6 (pc0 := 6) (pc' := 10) rfl (by decide) (by decide) ?_
  obtain ⟨fs, hr, hrun, hended, hW, hsame⟩ := X0.leave (v := some (.int 10)) (fun h => by rw [Bd.returns] at h; cases h)
  refine ⟨_, retI X0 hx Bd.returns (hb hby d37_10) hr, fin _ _ _ hrun hended ?_ ⟨⟨_, rfl⟩, hW, hsame.mono (by decide) (by decide)⟩⟩
  show Q37 Z h0 n0 _ s₁.heap _
  rw [e0]
  exact ⟨rfl, N0, rfl⟩
theorem d36_0 : decode oB36 0 = .ok (.aload_n 0, 1) := by decide +kernel
theorem d36_1 : decode oB36 1 = .ok (.getfield 9, 3) := by decide +kernel
theorem d36_4 : decode oB36 4 = .ok (.arraylength, 1) := by decide +kernel
theorem d36_5 : decode oB36 5 = .ok (.istore_n 2, 1) := by decide +kernel
theorem d36_6 : decode oB36 6 = .ok (.iload_n 2, 1) := by decide +kernel
theorem d36_7 : decode oB36 7 = .ok (.ifCond .gt 13, 3) := by decide +kernel
theorem d36_10 : decode oB36 10 = .ok (.aload_n 0, 1) := by decide +kernel
theorem d36_11 : decode oB36 11 = .ok (.getfield 9, 3) := by decide +kernel
theorem d36_14 : decode oB36 14 = .ok (.getstatic 39, 3) := by decide +kernel
theorem d36_17 : decode oB36 17 = .ok (.if_acmp .eq 28, 3) := by decide +kernel
theorem d36_45 : decode oB36 45 = .ok (.aload_n 0, 1) := by decide +kernel
theorem d36_46 : decode oB36 46 = .ok (.bipush 10, 2) := by decide +kernel
theorem d36_48 : decode oB36 48 = .ok (.iload_n 1, 1) := by decide +kernel
theorem d36_49 : decode oB36 49 = .ok (.invokestatic 79, 3) := by decide +kernel
theorem d36_52 : decode oB36 52 = .ok (.anewarray 7, 3) := by decide +kernel
theorem d36_55 : decode oB36 55 = .ok (.dup_x1, 1) := by decide +kernel
theorem d36_56 : decode oB36 56 = .ok (.putfield 9, 3) := by decide +kernel
theorem d36_59 : decode oB36 59 = .ok (.areturn, 1) := by decide +kernel
theorem pn_36 : plainName own_cA = true := by first | (simp [plainName, overriddenIn]; done) | decide +kernel
theorem pd_36_26 : parseMethodDescriptor "(II)I" = some ⟨[.int, .int], some .int⟩ := by decide +kernel
theorem ef_36 (m : MethodId) (x0 : Addr) (x1 : Int32) : entryFrame m #[(.ref x0), (.int x1)] 4 = mkF m 0 #[own_R x0, own_I x1, .unset, .unset] [] := by first | (simp [entryFrame, mkF, argsToLocals, Value.category]; done) | rfl
def Q36 (Z : State) (a1 : Addr) (xx : Nat → Nat) (h0 : Heap) (n0 : Nat) (v : Option Value) (h : Heap) (L : List Loc) : Prop := ∃ (r : Addr) (k : ClassId), v = some (.ref r) ∧ (True) ∧ h0.size ≤ r ∧ Fr n0 L ∧ Keep h0 h [a1] ∧ (Exa Z h a1 own_cA) ∧ (Fld Z h a1 own_cA "elementData" "[Ljava/lang/Object;" (.ref r)) ∧ (Fld Z h a1 "java/util/AbstractList" "modCount" "I" (.int 1)) ∧ (Fld Z h a1 own_cA "size" "I" (.int 0)) ∧ (Arv Z h r k (.object "java/lang/Object") (10 : Int32) [.null, .null, .null, .null, .null, .null, .null, .null, .null, .null] .null) ∧ (Ovr Z k "java/lang/Object")
theorem rm36 (l : Launch) (Z : State) (a0 : Array Value) (hw : ∀ d ∈ tables_1, d.before a0 Z = true) (ws_ : List Jvm.Cond) (a1 : Addr) (xx : Nat → Nat) (h0 : Heap) (n0 : Nat) (Z0 : n0 ≤ h0.size) (g_a1 : n0 ≤ a1) (P0 : Exa Z h0 a1 own_cA) (P1 : Fld Z h0 a1 own_cA "elementData" "[Ljava/lang/Object;" (.ref (xx 0))) (P2 : Fld Z h0 a1 "java/util/AbstractList" "modCount" "I" (.int 1)) (P3 : Fld Z h0 a1 own_cA "size" "I" (.int 0)) (P4 : Old Z n0 h0) (HP : own_P Z xx) :
    own_Met l own_mt36 oB36 4 (some (.array (.object "java/lang/Object"))) ws_ ({ frames := 1, cells := 1, slots := 10, locals := 14 } : Room) #[(.ref a1), (.int 1)] Z h0 (Q36 Z a1 xx h0 n0) := by
  refine own_met n0 (plainFor_of_name pn_36) (fun m => ef_36 m a1 (1 : Int32)) ?_
  intro p e s m below meth c s₁ Bd hZ hx hby hml hown' hnm X0 e0 N0 K fin
  have hown : s.vm.findClass own_cA = some m.cls := hown'
  show own_Go p e below K (s₁.setTop (mkF m 0 #[own_R a1, own_I 1, own_U, own_U] []))
  have q1 : Arv Z h0 (xx 0) (xx 1) (.object "java/lang/Object") (0 : Int32) [] .null := HP.2.1.ext P4.2
  refine own_xaloadN X0 hx hby d36_0 rfl rfl ?_
  obtain ⟨T2, X2, e2, st2⟩ := getF X0 hx hZ hown (host := "") (Or.inl (own_w hw 68 rfl)) Via.refl e0 P1 (g := (mkF m 1 #[own_R a1, own_I 1, own_U, own_U] [(.ref a1)])) rfl rfl (hb hby d36_1)
  refine own_st st2 ?_
  obtain ⟨cl3, Ar3, -, Sa3, Ma3, -, -⟩ := id q1
  refine own_st (X2.arraylength hx (own_hat e2 Ar3.1) (State.isArrayOf_alike hZ.alike Ar3.2.1) (g := (mkF m 4 #[own_R a1, own_I 1, own_U, own_U] [(.ref (xx 0))])) rfl rfl (hb hby d36_4)) ?_
  rw [len_of Sa3 Ma3]
  refine own_xistoreN X2 hx hby d36_5 (l' := #[own_R a1, own_I 1, own_I 0, own_U]) rfl ?_
  refine own_xiloadN X2 hx hby d36_6 rfl ?_
  refine own_xifNo X2 hx hby d36_7 ((if0 _ _).trans (flt (by decide : ¬ ((0 : Int32) < (0 : Int32)))).2.2.1) ?_
  refine own_xaloadN X2 hx hby d36_10 rfl rfl ?_
  obtain ⟨T4, X4, e4, st4⟩ := getF X2 hx hZ hown (host := "") (Or.inl (own_w hw 68 rfl)) Via.refl e2 P1 (g := (mkF m 11 #[own_R a1, own_I 1, own_I 0, own_U] [(.ref a1)])) rfl rfl (hb hby d36_11)
  refine own_st st4 ?_
  obtain ⟨T5, X5, e5, st5⟩ := getS2 X4 hx hZ hown (host := "") (Or.inl (own_w hw 67 rfl)) Via.refl e4 (HP.1.ext P4.2) (g := (mkF m 14 #[own_R a1, own_I 1, own_I 0, own_U] [(.ref (xx 0))])) rfl (hb hby d36_14)
  refine own_st st5 ?_
  refine own_st (fun _ => Jvm.RoadKit.acmp (g := (mkF m 17 #[own_R a1, own_I 1, own_I 0, own_U] [(.ref (xx 0)), (.ref (xx 0))])) X5 hx rfl rfl rfl (pc0 := 17) (pc' := 45) (same := true) rfl (hb hby d36_17) rfl (decide_eq_true rfl) (by decide) (by decide)) ?_
  refine own_xaloadN X5 hx hby d36_45 rfl rfl ?_
  refine own_xbipush X5 hx hby d36_46 10 rfl ?_
  refine own_xiloadN X5 hx hby d36_48 rfl ?_
  obtain ⟨_, T6, L6, Lc6, X6, hQ6, Nf6, st6⟩ := own_backS (cells := 0) (slots := 0) (rc := 0) (rs := 0) N0 (Jvm.LawKit.callS X5 hx (y := own_mt37) hown (mvT hZ (own_w hw 297 rfl)) (mvT hZ (own_w hw 298 rfl)) (mvT hZ (own_w hw 299 rfl)) (mvT hZ (own_w hw 300 rfl)) (by decide) (backOf (W := 1) (rm37 l Z a0 hw []  h0 n0 Z0) hZ (own_w hw 300 rfl) (own_w hw 299 rfl) (by decide) (by decide)) (g := (mkF m 49 #[own_R a1, own_I 1, own_I 0, own_U] [(.int 1), (.int 10), (.ref a1)])) rfl (by rw [hml]; rfl) (argsL := [(.int 10), (.int 1)]) (rest := [(.ref a1)]) (lenOf pd_36_26 rfl) rfl (by show 2 * 0 + _ ≤ _; exact Nat.le_of_eq rfl) (hb hby d36_49) (fun _ _ => ⟨rfl, e5, (by decide : 0 + 0 ≤ _), (by decide : 0 + 0 ≤ _)⟩))
  obtain ⟨rfl, N6q, e6⟩ := hQ6
  have N6 := Nf6 N6q
  refine own_tr st6 ?_
  obtain ⟨T7, h7, k7, X7, e7, E7, A7, O7, st7⟩ := newR X6 hx hZ hown (own_w hw 301 rfl) (own_w hw 302 rfl) e6 (g := (mkF m 52 #[own_R a1, own_I 1, own_I 0, own_U] [(.int 10), (.ref a1)])) rfl (hb hby d36_52) rfl (by decide) (cap := 10) (by decide) (by decide) (by decide) (by decide)
  obtain ⟨b7, g7⟩ : ∃ z, z = h0.size := ⟨_, rfl⟩
  rw [← g7] at A7 st7
  have ne_a1_b7 : a1 ≠ b7 := Nat.ne_of_lt (Nat.lt_of_lt_of_le P0.lt (Nat.le_of_eq g7.symm))
  have g_b7 : n0 ≤ b7 := Nat.le_trans Z0 (Nat.le_of_eq g7.symm)
  have sz_b7 : h0.size ≤ b7 := Nat.le_trans (Keep.refl h0 [a1]).1 (Nat.le_of_eq g7.symm)
  have f8 := P0.ext E7
  have f9 := P1.ext E7
  have f10 := P2.ext E7
  have f11 := P3.ext E7
  have f12 := P4.ext E7
  have V7 : Arv Z h7 b7 k7 (.object "java/lang/Object") (10 : Int32) [.null, .null, .null, .null, .null, .null, .null, .null, .null, .null] .null := (Arv.new A7 (by decide)).pad (pad_rep [] .null 10)
  have Z7 := Nat.le_trans Z0 E7.1
  have K7 : Keep h0 h7 [a1] := (Keep.refl h0 [a1]).ext E7
  refine own_st st7 ?_
  refine own_st (fun _ => XS.dupX1 X7.here hx rfl (hb hby d36_55) rfl rfl rfl) ?_
  obtain ⟨T13, h13, X13, e13, W13, st13⟩ := putF X7 hx hZ hown (host := "") (Or.inl (own_w hw 68 rfl)) Via.refl e7 f9 f8 (Or.inl (own_w hw 69 rfl)) (own_w hw 47 rfl) (ty := (.array (.object "java/lang/Object"))) (by decide) rfl rfl (g := (mkF m 56 #[own_R a1, own_I 1, own_I 0, own_U] [(.ref b7), (.ref a1), (.ref b7)])) rfl rfl (hb hby d36_56)
  have fw13 : Fld Z h13 a1 own_cA "elementData" "[Ljava/lang/Object;" (.ref b7) := f9.same W13
  have f14 := f8.wr W13
  have f15 := f10.other W13 (Or.inr (slot_ne (Or.inl (own_w hw 66 rfl)) (Or.inl (own_w hw 69 rfl)) (by decide) (t := .int) (t' := (.array (.object "java/lang/Object"))) (by decide) (by decide)))
  have f16 := f11.other W13 (Or.inr (slot_ne (Or.inl (own_w hw 281 rfl)) (Or.inl (own_w hw 69 rfl)) (by decide) (t := .int) (t' := (.array (.object "java/lang/Object"))) (by decide) (by decide)))
  have f17 := f12.wr W13 g_a1
  have f18 := V7.other W13 (Ne.symm ne_a1_b7)
  have N13 := Fr.snoc X13 N6 g_a1
  have Z13 := Nat.le_trans Z7 (Keep.of_wr W13).1
  have K13 := K7.wr W13 (Or.inl (List.mem_of_getElem? (i := 0) rfl))
  refine own_st st13 ?_
  obtain ⟨fs, hr, hrun, hended, hW, hsame⟩ := X13.leave (v := some (.ref b7)) (fun h => by rw [Bd.returns] at h; cases h)
  refine ⟨_, X13.areturnOut hx rfl Bd.returns rfl (hb hby d36_59) hr, fin _ _ _ hrun hended ?_ ⟨⟨_, rfl⟩, hW, hsame.mono (by decide) (by decide)⟩⟩
  show Q36 Z a1 xx h0 n0 _ T13.heap _
  rw [e13]
  exact ⟨_, k7, rfl, trivial, sz_b7, N13, K13, f14, fw13, f15, f16, f18, O7⟩
theorem d35_0 : decode oB35 0 = .ok (.aload_n 0, 1) := by decide +kernel
theorem d35_1 : decode oB35 1 = .ok (.aload_n 0, 1) := by decide +kernel
theorem d35_2 : decode oB35 2 = .ok (.getfield 48, 3) := by decide +kernel
theorem d35_5 : decode oB35 5 = .ok (.iconst 1, 1) := by decide +kernel
theorem d35_6 : decode oB35 6 = .ok (.iadd, 1) := by decide +kernel
theorem d35_7 : decode oB35 7 = .ok (.invokevirtual 69, 3) := by decide +kernel
theorem d35_10 : decode oB35 10 = .ok (.areturn, 1) := by decide +kernel
theorem pn_35 : plainName own_cA = true := by first | (simp [plainName, overriddenIn]; done) | decide +kernel
theorem pd_35_25 : parseMethodDescriptor "(I)[Ljava/lang/Object;" = some ⟨[.int], some (.array (.object "java/lang/Object"))⟩ := by decide +kernel
theorem ef_35 (m : MethodId) (x0 : Addr) : entryFrame m #[(.ref x0)] 1 = mkF m 0 #[own_R x0] [] := by first | (simp [entryFrame, mkF, argsToLocals, Value.category]; done) | rfl
def Q35 (Z : State) (a1 : Addr) (xx : Nat → Nat) (h0 : Heap) (n0 : Nat) (v : Option Value) (h : Heap) (L : List Loc) : Prop := ∃ (r : Addr) (k : ClassId), v = some (.ref r) ∧ (True) ∧ h0.size ≤ r ∧ Fr n0 L ∧ Keep h0 h [a1] ∧ (Exa Z h a1 own_cA) ∧ (Fld Z h a1 own_cA "elementData" "[Ljava/lang/Object;" (.ref r)) ∧ (Fld Z h a1 "java/util/AbstractList" "modCount" "I" (.int 1)) ∧ (Fld Z h a1 own_cA "size" "I" (.int 0)) ∧ (Arv Z h r k (.object "java/lang/Object") (10 : Int32) [.null, .null, .null, .null, .null, .null, .null, .null, .null, .null] .null) ∧ (Ovr Z k "java/lang/Object")
theorem rm35 (l : Launch) (Z : State) (a0 : Array Value) (hw : ∀ d ∈ tables_1, d.before a0 Z = true) (ws_ : List Jvm.Cond) (a1 : Addr) (xx : Nat → Nat) (h0 : Heap) (n0 : Nat) (Z0 : n0 ≤ h0.size) (g_a1 : n0 ≤ a1) (P0 : Exa Z h0 a1 own_cA) (P1 : Fld Z h0 a1 own_cA "elementData" "[Ljava/lang/Object;" (.ref (xx 0))) (P2 : Fld Z h0 a1 "java/util/AbstractList" "modCount" "I" (.int 1)) (P3 : Fld Z h0 a1 own_cA "size" "I" (.int 0)) (P4 : Old Z n0 h0) (HP : own_P Z xx) :
    own_Met l own_mt35 oB35 1 (some (.array (.object "java/lang/Object"))) ws_ ({ frames := 2, cells := 1, slots := 10, locals := 29 } : Room) #[(.ref a1)] Z h0 (Q35 Z a1 xx h0 n0) := by
  refine own_met n0 (plainFor_of_name pn_35) (fun m => ef_35 m a1) ?_
  intro p e s m below meth c s₁ Bd hZ hx hby hml hown' hnm X0 e0 N0 K fin
  have hown : s.vm.findClass own_cA = some m.cls := hown'
  show own_Go p e below K (s₁.setTop (mkF m 0 #[own_R a1] []))
  refine own_xaloadN X0 hx hby d35_0 rfl rfl ?_
  refine own_xaloadN X0 hx hby d35_1 rfl rfl ?_
  obtain ⟨T1, X1, e1, st1⟩ := getF X0 hx hZ hown (host := "") (Or.inl (own_w hw 280 rfl)) Via.refl e0 P3 (g := (mkF m 2 #[own_R a1] [(.ref a1), (.ref a1)])) rfl rfl (hb hby d35_2)
  refine own_st st1 ?_
  refine own_xiconst X1 hx hby d35_5 1 rfl ?_
  refine own_xiadd X1 hx hby d35_6 ?_
  show own_Go p e below K (T1.setTop (mkF m 7 #[own_R a1] [(.int ((0 : Int32) + (1 : Int32))), (.ref a1)]))
  rw [show ((0 : Int32) + (1 : Int32)) = (1 : Int32) from by decide]
  show own_Go p e below K (T1.setTop (mkF m 7 #[own_R a1] [(.int 1), (.ref a1)]))
  obtain ⟨cq2, qv2, qv2'⟩ := P0.cell
  obtain ⟨_, T2, L2, Lc2, X2, hQ2, Nf2, st2⟩ := own_back (cells := 0) (slots := 0) (rc := 1) (rs := 10) N0 (X1.privateBack hx (y := own_mt36) hown (mvT hZ (own_w hw 292 rfl)) (mvT hZ (own_w hw 293 rfl)) (mvT hZ (own_w hw 295 rfl)) (Cond.privateMethod_at (mvP hZ (own_w hw 294 rfl) (args := #[]))) (mvT hZ (own_w hw 296 rfl)) (by decide) (backOf (W := 0) (rm36 l Z a0 hw [] a1 xx h0 n0 Z0 g_a1 P0 P1 P2 P3 P4 (by assumption)) hZ (own_w hw 296 rfl) (own_w hw 48 rfl) (by decide) (by decide)) (g := (mkF m 7 #[own_R a1] [(.int 1), (.ref a1)])) rfl (by rw [hml]; rfl) (Steps.refl _) (a := a1) (own_hat e1 qv2) qv2' (argsL := [(.int 1)]) (rest := []) (lenOf pd_35_25 rfl) rfl (by show 2 * 0 + _ ≤ _; exact Nat.le_of_eq rfl) (hb hby d35_7) (fun _ _ => ⟨rfl, e1, (by decide : 0 + 1 ≤ _), (by decide : 0 + 10 ≤ _)⟩))
  obtain ⟨r2, k_2, rfl, hr2, fr2, N2q, Kq2, p2_0, p2_1, p2_2, p2_3, p2_4, pp2_0⟩ := hQ2
  have N2 := Nf2 N2q
  have ne_a1_r2 : a1 ≠ r2 := Nat.ne_of_lt (Nat.lt_of_lt_of_le P0.lt fr2)
  have g_r2 : n0 ≤ r2 := Nat.le_trans Z0 fr2
  have sz_r2 : h0.size ≤ r2 := Nat.le_trans (Keep.refl h0 [a1]).1 fr2
  have f3 := P4.keep Kq2 (allS (P := fun x => n0 ≤ x) g_a1 all0)
  have Z2 := Nat.le_trans Z0 Kq2.1
  have K2 : Keep h0 T2.heap [a1] := (Keep.refl h0 [a1]).trans Kq2 (allS (P := fun x => x ∈ [a1] ∨ h0.size ≤ x) (Or.inl (List.mem_of_getElem? (i := 0) rfl)) all0)
  refine own_tr st2 ?_
  obtain ⟨fs, hr, hrun, hended, hW, hsame⟩ := X2.leave (v := some (.ref r2)) (fun h => by rw [Bd.returns] at h; cases h)
  refine ⟨_, X2.areturnOut hx rfl Bd.returns rfl (hb hby d35_10) hr, fin _ _ _ hrun hended ?_ ⟨⟨_, rfl⟩, hW, hsame.mono (by decide) (by decide)⟩⟩
  show Q35 Z a1 xx h0 n0 _ T2.heap _
  exact ⟨_, k_2, rfl, trivial, sz_r2, N2, K2, p2_0, p2_1, p2_2, p2_3, p2_4, pp2_0⟩
theorem d34_0 : decode oB34 0 = .ok (.iload_n 3, 1) := by decide +kernel
theorem d34_1 : decode oB34 1 = .ok (.aload_n 2, 1) := by decide +kernel
theorem d34_2 : decode oB34 2 = .ok (.arraylength, 1) := by decide +kernel
theorem d34_3 : decode oB34 3 = .ok (.if_icmp .ne 8, 3) := by decide +kernel
theorem d34_6 : decode oB34 6 = .ok (.aload_n 0, 1) := by decide +kernel
theorem d34_7 : decode oB34 7 = .ok (.invokevirtual 129, 3) := by decide +kernel
theorem d34_10 : decode oB34 10 = .ok (.astore_n 2, 1) := by decide +kernel
theorem d34_11 : decode oB34 11 = .ok (.aload_n 2, 1) := by decide +kernel
theorem d34_12 : decode oB34 12 = .ok (.iload_n 3, 1) := by decide +kernel
theorem d34_13 : decode oB34 13 = .ok (.aload_n 1, 1) := by decide +kernel
theorem d34_14 : decode oB34 14 = .ok (.aastore, 1) := by decide +kernel
theorem d34_15 : decode oB34 15 = .ok (.aload_n 0, 1) := by decide +kernel
theorem d34_16 : decode oB34 16 = .ok (.iload_n 3, 1) := by decide +kernel
theorem d34_17 : decode oB34 17 = .ok (.iconst 1, 1) := by decide +kernel
theorem d34_18 : decode oB34 18 = .ok (.iadd, 1) := by decide +kernel
theorem d34_19 : decode oB34 19 = .ok (.putfield 48, 3) := by decide +kernel
theorem d34_22 : decode oB34 22 = .ok (.return_, 1) := by decide +kernel
theorem pn_34 : plainName own_cA = true := by first | (simp [plainName, overriddenIn]; done) | decide +kernel
theorem pd_34_24 : parseMethodDescriptor "()[Ljava/lang/Object;" = some ⟨[], some (.array (.object "java/lang/Object"))⟩ := by decide +kernel
theorem ef_34 (m : MethodId) (x0 : Addr) (x1 : Addr) (x2 : Addr) (x3 : Int32) : entryFrame m #[(.ref x0), (.ref x1), (.ref x2), (.int x3)] 4 = mkF m 0 #[own_R x0, own_R x1, own_R x2, own_I x3] [] := by first | (simp [entryFrame, mkF, argsToLocals, Value.category]; done) | rfl
def Q34 (Z : State) (a1 : Addr) (a2 : Addr) (xx : Nat → Nat) (h0 : Heap) (n0 : Nat) (v : Option Value) (h : Heap) (L : List Loc) : Prop := v = none ∧ Fr n0 L ∧ Keep h0 h [a1]
theorem rm34 (l : Launch) (Z : State) (a0 : Array Value) (hw : ∀ d ∈ tables_1, d.before a0 Z = true) (ws_ : List Jvm.Cond) (a1 : Addr) (a2 : Addr) (xx : Nat → Nat) (h0 : Heap) (n0 : Nat) (Z0 : n0 ≤ h0.size) (g_a1 : n0 ≤ a1) (P0 : Exa Z h0 a1 own_cA) (P1 : Fld Z h0 a1 own_cA "elementData" "[Ljava/lang/Object;" (.ref (xx 0))) (P2 : Fld Z h0 a1 "java/util/AbstractList" "modCount" "I" (.int 1)) (P3 : Fld Z h0 a1 own_cA "size" "I" (.int 0)) (P4 : Exa Z h0 a2 own_cD) (P5 : Old Z n0 h0) (HP : own_P Z xx) :
    own_Met l own_mt34 oB34 4 none ws_ ({ frames := 3, cells := 1, slots := 10, locals := 41 } : Room) #[(.ref a1), (.ref a2), (.ref (xx 0)), (.int 0)] Z h0 (Q34 Z a1 a2 xx h0 n0) := by
  refine own_met n0 (plainFor_of_name pn_34) (fun m => ef_34 m a1 a2 (xx 0) (0 : Int32)) ?_
  intro p e s m below meth c s₁ Bd hZ hx hby hml hown' hnm X0 e0 N0 K fin
  have hown : s.vm.findClass own_cA = some m.cls := hown'
  show own_Go p e below K (s₁.setTop (mkF m 0 #[own_R a1, own_R a2, own_R (xx 0), own_I 0] []))
  have q1 : Arv Z h0 (xx 0) (xx 1) (.object "java/lang/Object") (0 : Int32) [] .null := HP.2.1.ext P5.2
  refine own_xiloadN X0 hx hby d34_0 rfl ?_
  refine own_xaloadN X0 hx hby d34_1 rfl rfl ?_
  obtain ⟨cl2, Ar2, -, Sa2, Ma2, -, -⟩ := id q1
  refine own_st (X0.arraylength hx (own_hat e0 Ar2.1) (State.isArrayOf_alike hZ.alike Ar2.2.1) (g := (mkF m 2 #[own_R a1, own_R a2, own_R (xx 0), own_I 0] [(.ref (xx 0)), (.int 0)])) rfl rfl (hb hby d34_2)) ?_
  rw [len_of Sa2 Ma2]
  refine own_xicmpNo X0 hx hby d34_3 (teq (by decide : (0 : Int32) = (0 : Int32))).2 ?_
  refine own_xaloadN X0 hx hby d34_6 rfl rfl ?_
  obtain ⟨cq3, qv3, qv3'⟩ := P0.cell
  obtain ⟨_, T3, L3, Lc3, X3, hQ3, Nf3, st3⟩ := own_back (cells := 0) (slots := 0) (rc := 1) (rs := 10) N0 (X0.privateBack hx (y := own_mt35) hown (mvT hZ (own_w hw 287 rfl)) (mvT hZ (own_w hw 288 rfl)) (mvT hZ (own_w hw 290 rfl)) (Cond.privateMethod_at (mvP hZ (own_w hw 289 rfl) (args := #[]))) (mvT hZ (own_w hw 291 rfl)) (by decide) (backOf (W := 0) (rm35 l Z a0 hw [] a1 xx h0 n0 Z0 g_a1 P0 P1 P2 P3 P5 (by assumption)) hZ (own_w hw 291 rfl) (own_w hw 48 rfl) (by decide) (by decide)) (g := (mkF m 7 #[own_R a1, own_R a2, own_R (xx 0), own_I 0] [(.ref a1)])) rfl (by rw [hml]; rfl) (Steps.refl _) (a := a1) (own_hat e0 qv3) qv3' (argsL := []) (rest := []) (lenOf pd_34_24 rfl) rfl (by show 2 * 0 + _ ≤ _; exact Nat.le_of_eq rfl) (hb hby d34_7) (fun _ _ => ⟨rfl, e0, (by decide : 0 + 1 ≤ _), (by decide : 0 + 10 ≤ _)⟩))
  obtain ⟨r3, k_3, rfl, hr3, fr3, N3q, Kq3, p3_0, p3_1, p3_2, p3_3, p3_4, pp3_0⟩ := hQ3
  have N3 := Nf3 N3q
  have ne_a1_r3 : a1 ≠ r3 := Nat.ne_of_lt (Nat.lt_of_lt_of_le P0.lt fr3)
  have ne_a2_r3 : a2 ≠ r3 := Nat.ne_of_lt (Nat.lt_of_lt_of_le P4.lt fr3)
  have g_r3 : n0 ≤ r3 := Nat.le_trans Z0 fr3
  have sz_r3 : h0.size ≤ r3 := Nat.le_trans (Keep.refl h0 [a1]).1 fr3
  have f4 := P4.keep Kq3
  have f5 := P5.keep Kq3 (allS (P := fun x => n0 ≤ x) g_a1 all0)
  have Z3 := Nat.le_trans Z0 Kq3.1
  have K3 : Keep h0 T3.heap [a1] := (Keep.refl h0 [a1]).trans Kq3 (allS (P := fun x => x ∈ [a1] ∨ h0.size ≤ x) (Or.inl (List.mem_of_getElem? (i := 0) rfl)) all0)
  refine own_tr st3 ?_
  refine own_xastoreN X3 hx hby d34_10 rfl (l' := #[own_R a1, own_R a2, own_R r3, own_I 0]) rfl ?_
  refine own_xaloadN X3 hx hby d34_11 rfl rfl ?_
  refine own_xiloadN X3 hx hby d34_12 rfl ?_
  refine own_xaloadN X3 hx hby d34_13 rfl rfl ?_
  obtain ⟨cl6, Ar6, qa6, Sa6, Ma6, Ha6, Ga6⟩ := id p3_4
  have hin6 : ¬ ((0 : Int32) < 0 ∨ cl6.slots.size ≤ ((0 : Int32)).toNatClampNeg) := inb_of Sa6 ⟨by decide, by decide⟩
  obtain ⟨T7, h7, X7, e7, W7, st7⟩ := stR X3 hx hZ rfl Ar6 (j := (0 : Int32)) hin6 rfl (Sto.ofV Ar6 qa6 pp3_0 (Ins.of_exa f4 (own_w hw 303 rfl))) (g := (mkF m 14 #[own_R a1, own_R a2, own_R r3, own_I 0] [(.ref a2), (.int 0), (.ref r3)])) rfl rfl (hb hby d34_14)
  have V7 : Arv Z h7 r3 k_3 (.object "java/lang/Object") (10 : Int32) [(.ref a2), .null, .null, .null, .null, .null, .null, .null, .null, .null] .null := Arv.set Ar6 qa6 Sa6 Ma6 Ha6 Ga6 rfl W7 0 rfl (Nat.le_of_ble_eq_true rfl)
  have f8 := f4.wr W7
  have f9 := f5.wr W7 g_r3
  have f10 := p3_0.wr W7
  have f11 := p3_1.other W7 (Or.inl ne_a1_r3)
  have f12 := p3_2.other W7 (Or.inl ne_a1_r3)
  have f13 := p3_3.other W7 (Or.inl ne_a1_r3)
  have N7 := Fr.snoc X7 N3 g_r3
  have Z7 := Nat.le_trans Z3 (Keep.of_wr W7).1
  have K7 := K3.wr W7 (Or.inr sz_r3)
  refine own_st st7 ?_
  refine own_xaloadN X7 hx hby d34_15 rfl rfl ?_
  refine own_xiloadN X7 hx hby d34_16 rfl ?_
  refine own_xiconst X7 hx hby d34_17 1 rfl ?_
  refine own_xiadd X7 hx hby d34_18 ?_
  show own_Go p e below K (T7.setTop (mkF m 19 #[own_R a1, own_R a2, own_R r3, own_I 0] [(.int ((0 : Int32) + (1 : Int32))), (.ref a1)]))
  rw [show ((0 : Int32) + (1 : Int32)) = (1 : Int32) from by decide]
  show own_Go p e below K (T7.setTop (mkF m 19 #[own_R a1, own_R a2, own_R r3, own_I 0] [(.int 1), (.ref a1)]))
  obtain ⟨T14, h14, X14, e14, W14, st14⟩ := putF X7 hx hZ hown (host := "") (Or.inl (own_w hw 280 rfl)) Via.refl e7 f13 f10 (Or.inl (own_w hw 281 rfl)) (own_w hw 47 rfl) (ty := .int) (by decide) rfl rfl (g := (mkF m 19 #[own_R a1, own_R a2, own_R r3, own_I 0] [(.int 1), (.ref a1)])) rfl rfl (hb hby d34_19)
  have fw14 : Fld Z h14 a1 own_cA "size" "I" (.int 1) := f13.same W14
  have f15 := f8.wr W14
  have f16 := f9.wr W14 g_a1
  have f17 := f10.wr W14
  have f18 := f11.other W14 (Or.inr (slot_ne (Or.inl (own_w hw 69 rfl)) (Or.inl (own_w hw 281 rfl)) (by decide) (t := (.array (.object "java/lang/Object"))) (t' := .int) (by decide) (by decide)))
  have f19 := f12.other W14 (Or.inr (slot_ne (Or.inl (own_w hw 66 rfl)) (Or.inl (own_w hw 281 rfl)) (by decide) (t := .int) (t' := .int) (by decide) (by decide)))
  have f20 := V7.other W14 (Ne.symm ne_a1_r3)
  have N14 := Fr.snoc X14 N7 g_a1
  have Z14 := Nat.le_trans Z7 (Keep.of_wr W14).1
  have K14 := K7.wr W14 (Or.inl (List.mem_of_getElem? (i := 0) rfl))
  refine own_st st14 ?_
  obtain ⟨fs, hr, hrun, hended, hW, hsame⟩ := X14.leave (v := none) (fun _ => rfl)
  refine ⟨_, X14.returnOut hx Bd.returns (hb hby d34_22) hr, fin _ _ _ hrun hended ?_ ⟨⟨_, rfl⟩, hW, hsame.mono (by decide) (by decide)⟩⟩
  show Q34 Z a1 a2 xx h0 n0 _ T14.heap _
  rw [e14]
  exact ⟨rfl, N14, K14⟩
theorem d33_0 : decode oB33 0 = .ok (.aload_n 0, 1) := by decide +kernel
theorem d33_1 : decode oB33 1 = .ok (.dup, 1) := by decide +kernel
theorem d33_2 : decode oB33 2 = .ok (.getfield 63, 3) := by decide +kernel
theorem d33_5 : decode oB33 5 = .ok (.iconst 1, 1) := by decide +kernel
theorem d33_6 : decode oB33 6 = .ok (.iadd, 1) := by decide +kernel
theorem d33_7 : decode oB33 7 = .ok (.putfield 63, 3) := by decide +kernel
theorem d33_10 : decode oB33 10 = .ok (.aload_n 0, 1) := by decide +kernel
theorem d33_11 : decode oB33 11 = .ok (.aload_n 1, 1) := by decide +kernel
theorem d33_12 : decode oB33 12 = .ok (.aload_n 0, 1) := by decide +kernel
theorem d33_13 : decode oB33 13 = .ok (.getfield 9, 3) := by decide +kernel
theorem d33_16 : decode oB33 16 = .ok (.aload_n 0, 1) := by decide +kernel
theorem d33_17 : decode oB33 17 = .ok (.getfield 48, 3) := by decide +kernel
theorem d33_20 : decode oB33 20 = .ok (.invokevirtual 131, 3) := by decide +kernel
theorem d33_23 : decode oB33 23 = .ok (.iconst 1, 1) := by decide +kernel
theorem d33_24 : decode oB33 24 = .ok (.ireturn, 1) := by decide +kernel
theorem pn_33 : plainName own_cA = true := by first | (simp [plainName, overriddenIn]; done) | decide +kernel
theorem pd_33_23 : parseMethodDescriptor "(Ljava/lang/Object;[Ljava/lang/Object;I)V" = some ⟨[(.object "java/lang/Object"), (.array (.object "java/lang/Object")), .int], none⟩ := by decide +kernel
theorem ef_33 (m : MethodId) (x0 : Addr) (x1 : Addr) : entryFrame m #[(.ref x0), (.ref x1)] 2 = mkF m 0 #[own_R x0, own_R x1] [] := by first | (simp [entryFrame, mkF, argsToLocals, Value.category]; done) | rfl
def Q33 (Z : State) (a1 : Addr) (a2 : Addr) (xx : Nat → Nat) (h0 : Heap) (n0 : Nat) (v : Option Value) (h : Heap) (L : List Loc) : Prop := ∃ (r : Int32), v = some (.int r) ∧ (True) ∧ Fr n0 L ∧ Keep h0 h [a1]
theorem rm33 (l : Launch) (Z : State) (a0 : Array Value) (hw : ∀ d ∈ tables_1, d.before a0 Z = true) (ws_ : List Jvm.Cond) (a1 : Addr) (a2 : Addr) (xx : Nat → Nat) (h0 : Heap) (n0 : Nat) (Z0 : n0 ≤ h0.size) (g_a1 : n0 ≤ a1) (P0 : Exa Z h0 a1 own_cA) (P1 : Fld Z h0 a1 own_cA "elementData" "[Ljava/lang/Object;" (.ref (xx 0))) (P2 : Fld Z h0 a1 "java/util/AbstractList" "modCount" "I" (.int 0)) (P3 : Fld Z h0 a1 own_cA "size" "I" (.int 0)) (P4 : Exa Z h0 a2 own_cD) (P5 : Old Z n0 h0) (HP : own_P Z xx) :
    own_Met l own_mt33 oB33 2 (some .boolean) ws_ ({ frames := 4, cells := 1, slots := 10, locals := 56 } : Room) #[(.ref a1), (.ref a2)] Z h0 (Q33 Z a1 a2 xx h0 n0) := by
  refine own_met n0 (plainFor_of_name pn_33) (fun m => ef_33 m a1 a2) ?_
  intro p e s m below meth c s₁ Bd hZ hx hby hml hown' hnm X0 e0 N0 K fin
  have hown : s.vm.findClass own_cA = some m.cls := hown'
  show own_Go p e below K (s₁.setTop (mkF m 0 #[own_R a1, own_R a2] []))
  refine own_xaloadN X0 hx hby d33_0 rfl rfl ?_
  refine own_xdup X0 hx hby d33_1 rfl ?_
  obtain ⟨T1, X1, e1, st1⟩ := getF X0 hx hZ hown (host := "") (Or.inl (own_w hw 278 rfl)) (Via.of (own_w hw 279 rfl)) e0 P2 (g := (mkF m 2 #[own_R a1, own_R a2] [(.ref a1), (.ref a1)])) rfl rfl (hb hby d33_2)
  refine own_st st1 ?_
  refine own_xiconst X1 hx hby d33_5 1 rfl ?_
  refine own_xiadd X1 hx hby d33_6 ?_
  show own_Go p e below K (T1.setTop (mkF m 7 #[own_R a1, own_R a2] [(.int ((0 : Int32) + (1 : Int32))), (.ref a1)]))
  rw [show ((0 : Int32) + (1 : Int32)) = (1 : Int32) from by decide]
  show own_Go p e below K (T1.setTop (mkF m 7 #[own_R a1, own_R a2] [(.int 1), (.ref a1)]))
  obtain ⟨T2, h2, X2, e2, W2, st2⟩ := putF X1 hx hZ hown (host := "") (Or.inl (own_w hw 278 rfl)) (Via.of (own_w hw 279 rfl)) e1 P2 P0 (Or.inl (own_w hw 66 rfl)) (own_w hw 47 rfl) (ty := .int) (by decide) rfl rfl (g := (mkF m 7 #[own_R a1, own_R a2] [(.int 1), (.ref a1)])) rfl rfl (hb hby d33_7)
  have fw2 : Fld Z h2 a1 "java/util/AbstractList" "modCount" "I" (.int 1) := P2.same W2
  have f3 := P0.wr W2
  have f4 := P1.other W2 (Or.inr (slot_ne (Or.inl (own_w hw 69 rfl)) (Or.inl (own_w hw 66 rfl)) (by decide) (t := (.array (.object "java/lang/Object"))) (t' := .int) (by decide) (by decide)))
  have f5 := P3.other W2 (Or.inr (slot_ne (Or.inl (own_w hw 281 rfl)) (Or.inl (own_w hw 66 rfl)) (by decide) (t := .int) (t' := .int) (by decide) (by decide)))
  have f6 := P4.wr W2
  have f7 := P5.wr W2 g_a1
  have N2 := Fr.snoc X2 N0 g_a1
  have Z2 := Nat.le_trans Z0 (Keep.of_wr W2).1
  have K2 : Keep h0 h2 [a1] := (Keep.refl h0 [a1]).wr W2 (Or.inl (List.mem_of_getElem? (i := 0) rfl))
  refine own_st st2 ?_
  refine own_xaloadN X2 hx hby d33_10 rfl rfl ?_
  refine own_xaloadN X2 hx hby d33_11 rfl rfl ?_
  refine own_xaloadN X2 hx hby d33_12 rfl rfl ?_
  obtain ⟨T8, X8, e8, st8⟩ := getF X2 hx hZ hown (host := "") (Or.inl (own_w hw 68 rfl)) Via.refl e2 f4 (g := (mkF m 13 #[own_R a1, own_R a2] [(.ref a1), (.ref a2), (.ref a1)])) rfl rfl (hb hby d33_13)
  refine own_st st8 ?_
  refine own_xaloadN X8 hx hby d33_16 rfl rfl ?_
  obtain ⟨T9, X9, e9, st9⟩ := getF X8 hx hZ hown (host := "") (Or.inl (own_w hw 280 rfl)) Via.refl e8 f5 (g := (mkF m 17 #[own_R a1, own_R a2] [(.ref a1), (.ref (xx 0)), (.ref a2), (.ref a1)])) rfl rfl (hb hby d33_17)
  refine own_st st9 ?_
  obtain ⟨cq10, qv10, qv10'⟩ := f3.cell
  obtain ⟨_, T10, L10, Lc10, X10, hQ10, Nf10, st10⟩ := own_back (cells := 0) (slots := 0) (rc := 1) (rs := 10) N2 (X9.privateBack hx (y := own_mt34) hown (mvT hZ (own_w hw 282 rfl)) (mvT hZ (own_w hw 283 rfl)) (mvT hZ (own_w hw 285 rfl)) (Cond.privateMethod_at (mvP hZ (own_w hw 284 rfl) (args := #[]))) (mvT hZ (own_w hw 286 rfl)) (by decide) (backOf (W := 0) (rm34 l Z a0 hw [] a1 a2 xx h2 n0 Z2 g_a1 f3 f4 fw2 f5 f6 f7 (by assumption)) hZ (own_w hw 286 rfl) (own_w hw 48 rfl) (by decide) (by decide)) (g := (mkF m 20 #[own_R a1, own_R a2] [(.int 0), (.ref (xx 0)), (.ref a2), (.ref a1)])) rfl (by rw [hml]; rfl) (Steps.refl _) (a := a1) (own_hat e9 qv10) qv10' (argsL := [(.ref a2), (.ref (xx 0)), (.int 0)]) (rest := []) (lenOf pd_33_23 rfl) rfl (by show 2 * 0 + _ ≤ _; exact Nat.le_of_eq rfl) (hb hby d33_20) (fun _ _ => ⟨rfl, e9, (by decide : 0 + 1 ≤ _), (by decide : 0 + 10 ≤ _)⟩))
  obtain ⟨rfl, N10q, Kq10⟩ := hQ10
  have N10 := Nf10 N10q
  have f11 := f3.keep Kq10
  have f12 := f6.keep Kq10
  have f13 := f7.keep Kq10 (allS (P := fun x => n0 ≤ x) g_a1 all0)
  have Z10 := Nat.le_trans Z2 Kq10.1
  have K10 := K2.trans Kq10 (allS (P := fun x => x ∈ [a1] ∨ h0.size ≤ x) (Or.inl (List.mem_of_getElem? (i := 0) rfl)) all0)
  refine own_tr st10 ?_
  refine own_xiconst X10 hx hby d33_23 1 rfl ?_
  obtain ⟨fs, hr, hrun, hended, hW, hsame⟩ := X10.leave (v := some (.int (nar .boolean (1 : Int32)))) (fun h => by rw [Bd.returns] at h; cases h)
  refine ⟨_, retN X10 hx (t := .boolean) Bd.returns (by simp) (hb hby d33_24) hr, fin _ _ _ hrun hended ?_ ⟨⟨_, rfl⟩, hW, hsame.mono (by decide) (by decide)⟩⟩
  show Q33 Z a1 a2 xx h0 n0 _ T10.heap _
  exact ⟨_, rfl, trivial, N10, K10⟩
theorem d30_0 : decode oB30 0 = .ok (.aload_n 0, 1) := by decide +kernel
theorem d30_1 : decode oB30 1 = .ok (.getfield 33, 3) := by decide +kernel
theorem d30_4 : decode oB30 4 = .ok (.lreturn, 1) := by decide +kernel
theorem pn_30 : plainName own_cV = true := by first | (simp [plainName, overriddenIn]; done) | decide +kernel
theorem ef_30 (m : MethodId) (x0 : Addr) : entryFrame m #[(.ref x0)] 1 = mkF m 0 #[own_R x0] [] := by first | (simp [entryFrame, mkF, argsToLocals, Value.category]; done) | rfl
def Q30 (Z : State) (a1 : Addr) (v1 : Int64) (h0 : Heap) (n0 : Nat) (v : Option Value) (h : Heap) (L : List Loc) : Prop := v = some (.long v1) ∧ Fr n0 L ∧ h = h0
theorem rm30 (l : Launch) (Z : State) (a0 : Array Value) (hw : ∀ d ∈ tables_1, d.before a0 Z = true) (ws_ : List Jvm.Cond) (a1 : Addr) (v1 : Int64) (h0 : Heap) (n0 : Nat) (Z0 : n0 ≤ h0.size) (P0 : Fld Z h0 a1 own_cV "minSmallest" "J" (.long v1)) :
    own_Met l own_mt30 oB30 1 (some .long) ws_ ({ frames := 0, cells := 0, slots := 0, locals := 0 } : Room) #[(.ref a1)] Z h0 (Q30 Z a1 v1 h0 n0) := by
  refine own_met n0 (plainFor_of_name pn_30) (fun m => ef_30 m a1) ?_
  intro p e s m below meth c s₁ Bd hZ hx hby hml hown' hnm X0 e0 N0 K fin
  have hown : s.vm.findClass own_cV = some m.cls := hown'
  show own_Go p e below K (s₁.setTop (mkF m 0 #[own_R a1] []))
  refine own_xaloadN X0 hx hby d30_0 rfl rfl ?_
  obtain ⟨T1, X1, e1, st1⟩ := getF X0 hx hZ hown (host := "") (Or.inl (own_w hw 251 rfl)) Via.refl e0 P0 (g := (mkF m 1 #[own_R a1] [(.ref a1)])) rfl rfl (hb hby d30_1)
  refine own_st st1 ?_
  obtain ⟨fs, hr, hrun, hended, hW, hsame⟩ := X1.leave (v := some (.long v1)) (fun h => by rw [Bd.returns] at h; cases h)
  refine ⟨_, X1.lreturnOut hx Bd.returns (hb hby d30_4) hr, fin _ _ _ hrun hended ?_ ⟨⟨_, rfl⟩, hW, hsame.mono (by decide) (by decide)⟩⟩
  show Q30 Z a1 v1 h0 n0 _ T1.heap _
  rw [e1]
  exact ⟨rfl, N0, rfl⟩
theorem d31_0 : decode oB31 0 = .ok (.aload_n 0, 1) := by decide +kernel
theorem d31_1 : decode oB31 1 = .ok (.getfield 43, 3) := by decide +kernel
theorem d31_4 : decode oB31 4 = .ok (.lreturn, 1) := by decide +kernel
theorem pn_31 : plainName own_cV = true := by first | (simp [plainName, overriddenIn]; done) | decide +kernel
theorem ef_31 (m : MethodId) (x0 : Addr) : entryFrame m #[(.ref x0)] 1 = mkF m 0 #[own_R x0] [] := by first | (simp [entryFrame, mkF, argsToLocals, Value.category]; done) | rfl
def Q31 (Z : State) (a1 : Addr) (v1 : Int64) (h0 : Heap) (n0 : Nat) (v : Option Value) (h : Heap) (L : List Loc) : Prop := v = some (.long v1) ∧ Fr n0 L ∧ h = h0
theorem rm31 (l : Launch) (Z : State) (a0 : Array Value) (hw : ∀ d ∈ tables_1, d.before a0 Z = true) (ws_ : List Jvm.Cond) (a1 : Addr) (v1 : Int64) (h0 : Heap) (n0 : Nat) (Z0 : n0 ≤ h0.size) (P0 : Fld Z h0 a1 own_cV "maxLargest" "J" (.long v1)) :
    own_Met l own_mt31 oB31 1 (some .long) ws_ ({ frames := 0, cells := 0, slots := 0, locals := 0 } : Room) #[(.ref a1)] Z h0 (Q31 Z a1 v1 h0 n0) := by
  refine own_met n0 (plainFor_of_name pn_31) (fun m => ef_31 m a1) ?_
  intro p e s m below meth c s₁ Bd hZ hx hby hml hown' hnm X0 e0 N0 K fin
  have hown : s.vm.findClass own_cV = some m.cls := hown'
  show own_Go p e below K (s₁.setTop (mkF m 0 #[own_R a1] []))
  refine own_xaloadN X0 hx hby d31_0 rfl rfl ?_
  obtain ⟨T1, X1, e1, st1⟩ := getF X0 hx hZ hown (host := "") (Or.inl (own_w hw 258 rfl)) Via.refl e0 P0 (g := (mkF m 1 #[own_R a1] [(.ref a1)])) rfl rfl (hb hby d31_1)
  refine own_st st1 ?_
  obtain ⟨fs, hr, hrun, hended, hW, hsame⟩ := X1.leave (v := some (.long v1)) (fun h => by rw [Bd.returns] at h; cases h)
  refine ⟨_, X1.lreturnOut hx Bd.returns (hb hby d31_4) hr, fin _ _ _ hrun hended ?_ ⟨⟨_, rfl⟩, hW, hsame.mono (by decide) (by decide)⟩⟩
  show Q31 Z a1 v1 h0 n0 _ T1.heap _
  rw [e1]
  exact ⟨rfl, N0, rfl⟩
theorem d29_0 : decode oB29 0 = .ok (.lload_n 1, 1) := by decide +kernel
theorem d29_1 : decode oB29 1 = .ok (.aload_n 0, 1) := by decide +kernel
theorem d29_2 : decode oB29 2 = .ok (.invokevirtual 46, 3) := by decide +kernel
theorem d29_5 : decode oB29 5 = .ok (.lcmp, 1) := by decide +kernel
theorem d29_6 : decode oB29 6 = .ok (.ifCond .lt 16, 3) := by decide +kernel
theorem d29_9 : decode oB29 9 = .ok (.lload_n 1, 1) := by decide +kernel
theorem d29_10 : decode oB29 10 = .ok (.aload_n 0, 1) := by decide +kernel
theorem d29_11 : decode oB29 11 = .ok (.invokevirtual 54, 3) := by decide +kernel
theorem d29_14 : decode oB29 14 = .ok (.lcmp, 1) := by decide +kernel
theorem d29_15 : decode oB29 15 = .ok (.ifCond .gt 7, 3) := by decide +kernel
theorem d29_18 : decode oB29 18 = .ok (.iconst 1, 1) := by decide +kernel
theorem d29_19 : decode oB29 19 = .ok (.goto 4, 3) := by decide +kernel
theorem d29_23 : decode oB29 23 = .ok (.ireturn, 1) := by decide +kernel
theorem pn_29 : plainName own_cV = true := by first | (simp [plainName, overriddenIn]; done) | decide +kernel
theorem pd_29_5 : parseMethodDescriptor "()J" = some ⟨[], some .long⟩ := by decide +kernel
theorem ef_29 (m : MethodId) (x0 : Addr) (x1 : Int64) : entryFrame m #[(.ref x0), (.long x1)] 3 = mkF m 0 #[own_R x0, own_J x1, .second] [] := by first | (simp [entryFrame, mkF, argsToLocals, Value.category]; done) | rfl
def Q29 (Z : State) (a1 : Addr) (p2 : Int64) (h0 : Heap) (n0 : Nat) (v : Option Value) (h : Heap) (L : List Loc) : Prop := v = some (.int 1) ∧ Fr n0 L ∧ h = h0
theorem rm29 (l : Launch) (Z : State) (a0 : Array Value) (hw : ∀ d ∈ tables_1, d.before a0 Z = true) (ws_ : List Jvm.Cond) (a1 : Addr) (p2 : Int64) (h0 : Heap) (n0 : Nat) (Z0 : n0 ≤ h0.size) (P0 : Exa Z h0 a1 own_cV) (P1 : Fld Z h0 a1 own_cV "minSmallest" "J" (.long (-365243219162))) (P2 : Fld Z h0 a1 own_cV "maxLargest" "J" (.long 365241780471)) (hlo : ¬ p2 < (-365243219162 : Int64)) (hhi : ¬ (365241780471 : Int64) < p2) :
    own_Met l own_mt29 oB29 3 (some .boolean) ws_ ({ frames := 1, cells := 0, slots := 0, locals := 14 } : Room) #[(.ref a1), (.long p2)] Z h0 (Q29 Z a1 p2 h0 n0) := by
  refine own_met n0 (plainFor_of_name pn_29) (fun m => ef_29 m a1 p2) ?_
  intro p e s m below meth c s₁ Bd hZ hx hby hml hown' hnm X0 e0 N0 K fin
  have hown : s.vm.findClass own_cV = some m.cls := hown'
  show own_Go p e below K (s₁.setTop (mkF m 0 #[own_R a1, own_J p2, .second] []))
  refine own_xlloadN X0 hx hby d29_0 rfl ?_
  refine own_xaloadN X0 hx hby d29_1 rfl rfl ?_
  obtain ⟨cq1, kq1, qv1a, qv1b, qv1c⟩ := isOf hZ e0 P0
  obtain ⟨_, T1, L1, Lc1, X1, hQ1, Nf1, st1⟩ := own_back (cells := 0) (slots := 0) (rc := 0) (rs := 0) N0 (X0.virtualBack hx (y := own_mt30) (z := own_mt30) hown (mvT hZ (own_w hw 246 rfl)) (mvT hZ (own_w hw 247 rfl)) (notFace_of_selects (args := #[]) (mvT hZ (own_w hw 249 rfl))) (mvT hZ (own_w hw 249 rfl)) (mvT hZ (own_w hw 248 rfl)) (by decide) (backOf (W := 2) (rm30 l Z a0 hw [] a1 ((-365243219162 : Int64)) h0 n0 Z0 P1) hZ (own_w hw 250 rfl) (own_w hw 239 rfl) (by decide) (by decide)) qv1a qv1c (g := (mkF m 2 #[own_R a1, own_J p2, .second] [(.ref a1), (.long p2)])) rfl (by rw [hml]; rfl) (Steps.refl _) (argsL := []) (rest := [(.long p2)]) (lenOf pd_29_5 rfl) rfl (by show 2 * 0 + _ ≤ _; exact Nat.le_of_eq rfl) (hb hby d29_2) (fun _ _ => ⟨rfl, e0, (by decide : 0 + 0 ≤ _), (by decide : 0 + 0 ≤ _)⟩))
  obtain ⟨rfl, N1q, e1⟩ := hQ1
  have N1 := Nf1 N1q
  refine own_tr st1 ?_
  refine own_xlcmp X1 hx hby d29_5 ?_
  refine own_xifNo X1 hx hby d29_6 ((if0 _ _).trans (flt (fun q => (hlo : ¬ (p2 < (-365243219162 : Int64))) ((lw_lt p2 (-365243219162 : Int64)).mp q))).1) ?_
  refine own_xlloadN X1 hx hby d29_9 rfl ?_
  refine own_xaloadN X1 hx hby d29_10 rfl rfl ?_
  obtain ⟨cq2, kq2, qv2a, qv2b, qv2c⟩ := isOf hZ e1 P0
  obtain ⟨_, T2, L2, Lc2, X2, hQ2, Nf2, st2⟩ := own_back (cells := 0) (slots := 0) (rc := 0) (rs := 0) N1 (X1.virtualBack hx (y := own_mt31) (z := own_mt31) hown (mvT hZ (own_w hw 253 rfl)) (mvT hZ (own_w hw 254 rfl)) (notFace_of_selects (args := #[]) (mvT hZ (own_w hw 256 rfl))) (mvT hZ (own_w hw 256 rfl)) (mvT hZ (own_w hw 255 rfl)) (by decide) (backOf (W := 2) (rm31 l Z a0 hw [] a1 ((365241780471 : Int64)) h0 n0 Z0 P2) hZ (own_w hw 257 rfl) (own_w hw 239 rfl) (by decide) (by decide)) qv2a qv2c (g := (mkF m 11 #[own_R a1, own_J p2, .second] [(.ref a1), (.long p2)])) rfl (by rw [hml]; rfl) (Steps.refl _) (argsL := []) (rest := [(.long p2)]) (lenOf pd_29_5 rfl) rfl (by show 2 * 0 + _ ≤ _; exact Nat.le_of_eq rfl) (hb hby d29_11) (fun _ _ => ⟨rfl, e1, (by decide : 0 + 0 ≤ _), (by decide : 0 + 0 ≤ _)⟩))
  obtain ⟨rfl, N2q, e2⟩ := hQ2
  have N2 := Nf2 N2q
  refine own_tr st2 ?_
  refine own_xlcmp X2 hx hby d29_14 ?_
  refine own_xifNo X2 hx hby d29_15 ((if0 _ _).trans (flt (fun q => (hhi : ¬ ((365241780471 : Int64) < p2)) ((lw_gt p2 (365241780471 : Int64)).mp q))).2.2.1) ?_
  refine own_xiconst X2 hx hby d29_18 1 rfl ?_
  refine own_xgoto X2 hx hby d29_19 (pc0 := 19) (pc' := 23) rfl (by decide) (by decide) ?_
  obtain ⟨fs, hr, hrun, hended, hW, hsame⟩ := X2.leave (v := some (.int (nar .boolean (1 : Int32)))) (fun h => by rw [Bd.returns] at h; cases h)
  refine ⟨_, retN X2 hx (t := .boolean) Bd.returns (by simp) (hb hby d29_23) hr, fin _ _ _ hrun hended ?_ ⟨⟨_, rfl⟩, hW, hsame.mono (by decide) (by decide)⟩⟩
  show Q29 Z a1 p2 h0 n0 _ T2.heap _
  rw [e2]
  exact ⟨rfl, N2, rfl⟩
theorem d28_0 : decode oB28 0 = .ok (.aload_n 0, 1) := by decide +kernel
theorem d28_1 : decode oB28 1 = .ok (.lload_n 1, 1) := by decide +kernel
theorem d28_2 : decode oB28 2 = .ok (.invokevirtual 63, 3) := by decide +kernel
theorem d28_5 : decode oB28 5 = .ok (.ifCond .ne 17, 3) := by decide +kernel
theorem d28_22 : decode oB28 22 = .ok (.lload_n 1, 1) := by decide +kernel
theorem d28_23 : decode oB28 23 = .ok (.lreturn, 1) := by decide +kernel
theorem pn_28 : plainName own_cV = true := by first | (simp [plainName, overriddenIn]; done) | decide +kernel
theorem pd_28_17 : parseMethodDescriptor "(J)Z" = some ⟨[.long], some .boolean⟩ := by decide +kernel
theorem ef_28 (m : MethodId) (x0 : Addr) (x1 : Int64) (x2 : Addr) : entryFrame m #[(.ref x0), (.long x1), (.ref x2)] 4 = mkF m 0 #[own_R x0, own_J x1, .second, own_R x2] [] := by first | (simp [entryFrame, mkF, argsToLocals, Value.category]; done) | rfl
def Q28 (Z : State) (a1 : Addr) (p2 : Int64) (a3 : Addr) (h0 : Heap) (n0 : Nat) (v : Option Value) (h : Heap) (L : List Loc) : Prop := v = some (.long p2) ∧ Fr n0 L ∧ h = h0
theorem rm28 (l : Launch) (Z : State) (a0 : Array Value) (hw : ∀ d ∈ tables_1, d.before a0 Z = true) (ws_ : List Jvm.Cond) (a1 : Addr) (p2 : Int64) (a3 : Addr) (h0 : Heap) (n0 : Nat) (Z0 : n0 ≤ h0.size) (P0 : Exa Z h0 a1 own_cV) (P1 : Fld Z h0 a1 own_cV "minSmallest" "J" (.long (-365243219162))) (P2 : Fld Z h0 a1 own_cV "maxLargest" "J" (.long 365241780471)) (hlo : ¬ p2 < (-365243219162 : Int64)) (hhi : ¬ (365241780471 : Int64) < p2) :
    own_Met l own_mt28 oB28 4 (some .long) ws_ ({ frames := 2, cells := 0, slots := 0, locals := 28 } : Room) #[(.ref a1), (.long p2), (.ref a3)] Z h0 (Q28 Z a1 p2 a3 h0 n0) := by
  refine own_met n0 (plainFor_of_name pn_28) (fun m => ef_28 m a1 p2 a3) ?_
  intro p e s m below meth c s₁ Bd hZ hx hby hml hown' hnm X0 e0 N0 K fin
  have hown : s.vm.findClass own_cV = some m.cls := hown'
  show own_Go p e below K (s₁.setTop (mkF m 0 #[own_R a1, own_J p2, .second, own_R a3] []))
  refine own_xaloadN X0 hx hby d28_0 rfl rfl ?_
  refine own_xlloadN X0 hx hby d28_1 rfl ?_
  obtain ⟨cq1, kq1, qv1a, qv1b, qv1c⟩ := isOf hZ e0 P0
  obtain ⟨_, T1, L1, Lc1, X1, hQ1, Nf1, st1⟩ := own_back (cells := 0) (slots := 0) (rc := 0) (rs := 0) N0 (X0.virtualBack hx (y := own_mt29) (z := own_mt29) hown (mvT hZ (own_w hw 241 rfl)) (mvT hZ (own_w hw 242 rfl)) (notFace_of_selects (args := #[]) (mvT hZ (own_w hw 244 rfl))) (mvT hZ (own_w hw 244 rfl)) (mvT hZ (own_w hw 243 rfl)) (by decide) (backOf (W := 0) (rm29 l Z a0 hw [] a1 p2 h0 n0 Z0 P0 P1 P2 (by assumption) (by assumption)) hZ (own_w hw 245 rfl) (own_w hw 239 rfl) (by decide) (by decide)) qv1a qv1c (g := (mkF m 2 #[own_R a1, own_J p2, .second, own_R a3] [(.long p2), (.ref a1)])) rfl (by rw [hml]; rfl) (Steps.refl _) (argsL := [(.long p2)]) (rest := []) (lenOf pd_28_17 rfl) rfl (by show 2 * 0 + _ ≤ _; exact Nat.le_of_eq rfl) (hb hby d28_2) (fun _ _ => ⟨rfl, e0, (by decide : 0 + 0 ≤ _), (by decide : 0 + 0 ≤ _)⟩))
  obtain ⟨rfl, N1q, e1⟩ := hQ1
  have N1 := Nf1 N1q
  refine own_tr st1 ?_
  refine own_xifYes X1 hx hby d28_5 (pc0 := 5) (pc' := 22) ((if0 _ _).trans (feq (by decide : ¬ ((1 : Int32) = (0 : Int32)))).2) rfl (by decide) (by decide) ?_
  refine own_xlloadN X1 hx hby d28_22 rfl ?_
  obtain ⟨fs, hr, hrun, hended, hW, hsame⟩ := X1.leave (v := some (.long p2)) (fun h => by rw [Bd.returns] at h; cases h)
  refine ⟨_, X1.lreturnOut hx Bd.returns (hb hby d28_23) hr, fin _ _ _ hrun hended ?_ ⟨⟨_, rfl⟩, hW, hsame.mono (by decide) (by decide)⟩⟩
  show Q28 Z a1 p2 a3 h0 n0 _ T1.heap _
  rw [e1]
  exact ⟨rfl, N1, rfl⟩
theorem d27_0 : decode oB27 0 = .ok (.aload_n 0, 1) := by decide +kernel
theorem d27_1 : decode oB27 1 = .ok (.getfield 124, 3) := by decide +kernel
theorem d27_4 : decode oB27 4 = .ok (.areturn, 1) := by decide +kernel
theorem pn_27 : plainName own_cC = true := by first | (simp [plainName, overriddenIn]; done) | decide +kernel
theorem ef_27 (m : MethodId) (x0 : Addr) : entryFrame m #[(.ref x0)] 1 = mkF m 0 #[own_R x0] [] := by first | (simp [entryFrame, mkF, argsToLocals, Value.category]; done) | rfl
def Q27 (Z : State) (a1 : Addr) (xo : Addr) (h0 : Heap) (n0 : Nat) (v : Option Value) (h : Heap) (L : List Loc) : Prop := v = some (.ref xo) ∧ Fr n0 L ∧ h = h0
theorem rm27 (l : Launch) (Z : State) (a0 : Array Value) (hw : ∀ d ∈ tables_1, d.before a0 Z = true) (ws_ : List Jvm.Cond) (a1 : Addr) (xo : Addr) (h0 : Heap) (n0 : Nat) (Z0 : n0 ≤ h0.size) (P0 : Fld Z h0 a1 own_cC "range" "Ljava/time/temporal/ValueRange;" (.ref xo)) :
    own_Met l own_mt27 oB27 1 (some (.object own_cV)) ws_ ({ frames := 0, cells := 0, slots := 0, locals := 0 } : Room) #[(.ref a1)] Z h0 (Q27 Z a1 xo h0 n0) := by
  refine own_met n0 (plainFor_of_name pn_27) (fun m => ef_27 m a1) ?_
  intro p e s m below meth c s₁ Bd hZ hx hby hml hown' hnm X0 e0 N0 K fin
  have hown : s.vm.findClass own_cC = some m.cls := hown'
  show own_Go p e below K (s₁.setTop (mkF m 0 #[own_R a1] []))
  refine own_xaloadN X0 hx hby d27_0 rfl rfl ?_
  obtain ⟨T1, X1, e1, st1⟩ := getF X0 hx hZ hown (host := "") (Or.inl (own_w hw 233 rfl)) Via.refl e0 P0 (g := (mkF m 1 #[own_R a1] [(.ref a1)])) rfl rfl (hb hby d27_1)
  refine own_st st1 ?_
  obtain ⟨fs, hr, hrun, hended, hW, hsame⟩ := X1.leave (v := some (.ref xo)) (fun h => by rw [Bd.returns] at h; cases h)
  refine ⟨_, X1.areturnOut hx rfl Bd.returns rfl (hb hby d27_4) hr, fin _ _ _ hrun hended ?_ ⟨⟨_, rfl⟩, hW, hsame.mono (by decide) (by decide)⟩⟩
  show Q27 Z a1 xo h0 n0 _ T1.heap _
  rw [e1]
  exact ⟨rfl, N0, rfl⟩
theorem d26_0 : decode oB26 0 = .ok (.aload_n 0, 1) := by decide +kernel
theorem d26_1 : decode oB26 1 = .ok (.invokevirtual 190, 3) := by decide +kernel
theorem d26_4 : decode oB26 4 = .ok (.lload_n 1, 1) := by decide +kernel
theorem d26_5 : decode oB26 5 = .ok (.aload_n 0, 1) := by decide +kernel
theorem d26_6 : decode oB26 6 = .ok (.invokevirtual 193, 3) := by decide +kernel
theorem d26_9 : decode oB26 9 = .ok (.lreturn, 1) := by decide +kernel
theorem pn_26 : plainName own_cC = true := by first | (simp [plainName, overriddenIn]; done) | decide +kernel
theorem pd_26_19 : parseMethodDescriptor "()Ljava/time/temporal/ValueRange;" = some ⟨[], some (.object own_cV)⟩ := by decide +kernel
theorem pd_26_20 : parseMethodDescriptor "(JLjava/time/temporal/TemporalField;)J" = some ⟨[.long, (.object "java/time/temporal/TemporalField")], some .long⟩ := by decide +kernel
theorem ef_26 (m : MethodId) (x0 : Addr) (x1 : Int64) : entryFrame m #[(.ref x0), (.long x1)] 3 = mkF m 0 #[own_R x0, own_J x1, .second] [] := by first | (simp [entryFrame, mkF, argsToLocals, Value.category]; done) | rfl
def Q26 (Z : State) (a1 : Addr) (p2 : Int64) (xo : Addr) (h0 : Heap) (n0 : Nat) (v : Option Value) (h : Heap) (L : List Loc) : Prop := v = some (.long p2) ∧ Fr n0 L ∧ h = h0
theorem rm26 (l : Launch) (Z : State) (a0 : Array Value) (hw : ∀ d ∈ tables_1, d.before a0 Z = true) (ws_ : List Jvm.Cond) (a1 : Addr) (p2 : Int64) (xo : Addr) (h0 : Heap) (n0 : Nat) (Z0 : n0 ≤ h0.size) (P0 : Exa Z h0 a1 own_cC) (P1 : Fld Z h0 a1 own_cC "range" "Ljava/time/temporal/ValueRange;" (.ref xo)) (P2 : Exa Z h0 xo own_cV) (P3 : Fld Z h0 xo own_cV "minSmallest" "J" (.long (-365243219162))) (P4 : Fld Z h0 xo own_cV "maxLargest" "J" (.long 365241780471)) (hlo : ¬ p2 < (-365243219162 : Int64)) (hhi : ¬ (365241780471 : Int64) < p2) :
    own_Met l own_mt26 oB26 3 (some .long) ws_ ({ frames := 3, cells := 0, slots := 0, locals := 43 } : Room) #[(.ref a1), (.long p2)] Z h0 (Q26 Z a1 p2 xo h0 n0) := by
  refine own_met n0 (plainFor_of_name pn_26) (fun m => ef_26 m a1 p2) ?_
  intro p e s m below meth c s₁ Bd hZ hx hby hml hown' hnm X0 e0 N0 K fin
  have hown : s.vm.findClass own_cC = some m.cls := hown'
  show own_Go p e below K (s₁.setTop (mkF m 0 #[own_R a1, own_J p2, .second] []))
  refine own_xaloadN X0 hx hby d26_0 rfl rfl ?_
  obtain ⟨cq1, kq1, qv1a, qv1b, qv1c⟩ := isOf hZ e0 P0
  obtain ⟨_, T1, L1, Lc1, X1, hQ1, Nf1, st1⟩ := own_back (cells := 0) (slots := 0) (rc := 0) (rs := 0) N0 (X0.virtualBack hx (y := own_mt27) (z := own_mt27) hown (mvT hZ (own_w hw 228 rfl)) (mvT hZ (own_w hw 229 rfl)) (notFace_of_selects (args := #[]) (mvT hZ (own_w hw 231 rfl))) (mvT hZ (own_w hw 231 rfl)) (mvT hZ (own_w hw 230 rfl)) (by decide) (backOf (W := 0) (rm27 l Z a0 hw [] a1 (xo) h0 n0 Z0 P1) hZ (own_w hw 232 rfl) (own_w hw 222 rfl) (by decide) (by decide)) qv1a qv1c (g := (mkF m 1 #[own_R a1, own_J p2, .second] [(.ref a1)])) rfl (by rw [hml]; rfl) (Steps.refl _) (argsL := []) (rest := []) (lenOf pd_26_19 rfl) rfl (by show 2 * 0 + _ ≤ _; exact Nat.le_of_eq rfl) (hb hby d26_1) (fun _ _ => ⟨rfl, e0, (by decide : 0 + 0 ≤ _), (by decide : 0 + 0 ≤ _)⟩))
  obtain ⟨rfl, N1q, e1⟩ := hQ1
  have N1 := Nf1 N1q
  refine own_tr st1 ?_
  refine own_xlloadN X1 hx hby d26_4 rfl ?_
  refine own_xaloadN X1 hx hby d26_5 rfl rfl ?_
  obtain ⟨cq2, kq2, qv2a, qv2b, qv2c⟩ := isOf hZ e1 P2
  obtain ⟨_, T2, L2, Lc2, X2, hQ2, Nf2, st2⟩ := own_back (cells := 0) (slots := 0) (rc := 0) (rs := 0) N1 (X1.virtualBack hx (y := own_mt28) (z := own_mt28) hown (mvT hZ (own_w hw 235 rfl)) (mvT hZ (own_w hw 236 rfl)) (notFace_of_selects (args := #[]) (mvT hZ (own_w hw 238 rfl))) (mvT hZ (own_w hw 238 rfl)) (mvT hZ (own_w hw 237 rfl)) (by decide) (backOf (W := 0) (rm28 l Z a0 hw [] xo p2 a1 h0 n0 Z0 P2 P3 P4 (by assumption) (by assumption)) hZ (own_w hw 240 rfl) (own_w hw 239 rfl) (by decide) (by decide)) qv2a qv2c (g := (mkF m 6 #[own_R a1, own_J p2, .second] [(.ref a1), (.long p2), (.ref xo)])) rfl (by rw [hml]; rfl) (Steps.refl _) (argsL := [(.long p2), (.ref a1)]) (rest := []) (lenOf pd_26_20 rfl) rfl (by show 2 * 0 + _ ≤ _; exact Nat.le_of_eq rfl) (hb hby d26_6) (fun _ _ => ⟨rfl, e1, (by decide : 0 + 0 ≤ _), (by decide : 0 + 0 ≤ _)⟩))
  obtain ⟨rfl, N2q, e2⟩ := hQ2
  have N2 := Nf2 N2q
  refine own_tr st2 ?_
  obtain ⟨fs, hr, hrun, hended, hW, hsame⟩ := X2.leave (v := some (.long p2)) (fun h => by rw [Bd.returns] at h; cases h)
  refine ⟨_, X2.lreturnOut hx Bd.returns (hb hby d26_9) hr, fin _ _ _ hrun hended ?_ ⟨⟨_, rfl⟩, hW, hsame.mono (by decide) (by decide)⟩⟩
  show Q26 Z a1 p2 xo h0 n0 _ T2.heap _
  rw [e2]
  exact ⟨rfl, N2, rfl⟩
theorem d24_0 : decode oB24 0 = .ok (.lload_n 1, 1) := by decide +kernel
theorem d24_1 : decode oB24 1 = .ok (.ldc2_w 117, 3) := by decide +kernel
theorem d24_4 : decode oB24 4 = .ok (.land, 1) := by decide +kernel
theorem d24_5 : decode oB24 5 = .ok (.lconst 0, 1) := by decide +kernel
theorem d24_6 : decode oB24 6 = .ok (.lcmp, 1) := by decide +kernel
theorem d24_7 : decode oB24 7 = .ok (.ifCond .ne 27, 3) := by decide +kernel
theorem d24_10 : decode oB24 10 = .ok (.lload_n 1, 1) := by decide +kernel
theorem d24_11 : decode oB24 11 = .ok (.ldc2_w 123, 3) := by decide +kernel
theorem d24_14 : decode oB24 14 = .ok (.lrem, 1) := by decide +kernel
theorem d24_15 : decode oB24 15 = .ok (.lconst 0, 1) := by decide +kernel
theorem d24_16 : decode oB24 16 = .ok (.lcmp, 1) := by decide +kernel
theorem d24_17 : decode oB24 17 = .ok (.ifCond .ne 13, 3) := by decide +kernel
theorem d24_20 : decode oB24 20 = .ok (.lload_n 1, 1) := by decide +kernel
theorem d24_21 : decode oB24 21 = .ok (.ldc2_w 127, 3) := by decide +kernel
theorem d24_24 : decode oB24 24 = .ok (.lrem, 1) := by decide +kernel
theorem d24_25 : decode oB24 25 = .ok (.lconst 0, 1) := by decide +kernel
theorem d24_26 : decode oB24 26 = .ok (.lcmp, 1) := by decide +kernel
theorem d24_27 : decode oB24 27 = .ok (.ifCond .ne 7, 3) := by decide +kernel
theorem d24_30 : decode oB24 30 = .ok (.iconst 1, 1) := by decide +kernel
theorem d24_31 : decode oB24 31 = .ok (.goto 4, 3) := by decide +kernel
theorem d24_34 : decode oB24 34 = .ok (.iconst 0, 1) := by decide +kernel
theorem d24_35 : decode oB24 35 = .ok (.ireturn, 1) := by decide +kernel
theorem pn_24 : plainName "java/time/chrono/IsoChronology" = true := by first | (simp [plainName, overriddenIn]; done) | decide +kernel
theorem ef_24 (m : MethodId) (x0 : Addr) (x1 : Int64) : entryFrame m #[(.ref x0), (.long x1)] 3 = mkF m 0 #[own_R x0, own_J x1, .second] [] := by first | (simp [entryFrame, mkF, argsToLocals, Value.category]; done) | rfl
def Q24 (Z : State) (a1 : Addr) (p2 : Int64) (h0 : Heap) (n0 : Nat) (v : Option Value) (h : Heap) (L : List Loc) : Prop := ∃ (r : Int32), v = some (.int r) ∧ (own_B ((p2 &&& (3 : Int64)) = (0 : Int64) ∧ (¬ (p2 % (100 : Int64)) = (0 : Int64) ∨ (p2 % (400 : Int64)) = (0 : Int64))) r) ∧ Fr n0 L ∧ h = h0
theorem rm24 (l : Launch) (Z : State) (a0 : Array Value) (hw : ∀ d ∈ tables_1, d.before a0 Z = true) (ws_ : List Jvm.Cond) (a1 : Addr) (p2 : Int64) (h0 : Heap) (n0 : Nat) (Z0 : n0 ≤ h0.size)  :
    own_Met l own_mt24 oB24 3 (some .boolean) ws_ ({ frames := 0, cells := 0, slots := 0, locals := 0 } : Room) #[(.ref a1), (.long p2)] Z h0 (Q24 Z a1 p2 h0 n0) := by
  refine own_met n0 (plainFor_of_name pn_24) (fun m => ef_24 m a1 p2) ?_
  intro p e s m below meth c s₁ Bd hZ hx hby hml hown' hnm X0 e0 N0 K fin
  have hown : s.vm.findClass "java/time/chrono/IsoChronology" = some m.cls := hown'
  show own_Go p e below K (s₁.setTop (mkF m 0 #[own_R a1, own_J p2, .second] []))
  refine own_xlloadN X0 hx hby d24_0 rfl ?_
  refine own_st (X0.ldc2Long hx hown (mvT hZ (own_w hw 217 rfl)) (g := (mkF m 1 #[own_R a1, own_J p2, .second] [(.long p2)])) rfl (hb hby d24_1)) ?_
  refine own_xland X0 hx hby d24_4 ?_
  refine own_st (fun _ => XS.lconst X0.here hx rfl (hb hby d24_5)) ?_
  refine own_xlcmp X0 hx hby d24_6 ?_
  by_cases hc7 : (p2 &&& (3 : Int64)) = (0 : Int64)
  · refine own_xifNo X0 hx hby d24_7 ((if0 _ _).trans (teq ((lw_eq (p2 &&& (3 : Int64)) (0 : Int64)).mpr hc7)).2) ?_
    refine own_xlloadN X0 hx hby d24_10 rfl ?_
    refine own_st (X0.ldc2Long hx hown (mvT hZ (own_w hw 342 rfl)) (g := (mkF m 11 #[own_R a1, own_J p2, .second] [(.long p2)])) rfl (hb hby d24_11)) ?_
    refine own_st (fun _ => own_lrem X0.here hx rfl (hb hby d24_14) rfl (by decide)) ?_
    refine own_st (fun _ => XS.lconst X0.here hx rfl (hb hby d24_15)) ?_
    refine own_xlcmp X0 hx hby d24_16 ?_
    by_cases hc17 : (p2 % (100 : Int64)) = (0 : Int64)
    · refine own_xifNo X0 hx hby d24_17 ((if0 _ _).trans (teq ((lw_eq (p2 % (100 : Int64)) (0 : Int64)).mpr hc17)).2) ?_
      refine own_xlloadN X0 hx hby d24_20 rfl ?_
      refine own_st (X0.ldc2Long hx hown (mvT hZ (own_w hw 343 rfl)) (g := (mkF m 21 #[own_R a1, own_J p2, .second] [(.long p2)])) rfl (hb hby d24_21)) ?_
      refine own_st (fun _ => own_lrem X0.here hx rfl (hb hby d24_24) rfl (by decide)) ?_
      refine own_st (fun _ => XS.lconst X0.here hx rfl (hb hby d24_25)) ?_
      refine own_xlcmp X0 hx hby d24_26 ?_
      by_cases hc27 : (p2 % (400 : Int64)) = (0 : Int64)
      · refine own_xifNo X0 hx hby d24_27 ((if0 _ _).trans (teq ((lw_eq (p2 % (400 : Int64)) (0 : Int64)).mpr hc27)).2) ?_
        refine own_xiconst X0 hx hby d24_30 1 rfl ?_
        refine own_xgoto X0 hx hby d24_31 (pc0 := 31) (pc' := 35) rfl (by decide) (by decide) ?_
        obtain ⟨fs, hr, hrun, hended, hW, hsame⟩ := X0.leave (v := some (.int (nar .boolean (1 : Int32)))) (fun h => by rw [Bd.returns] at h; cases h)
        refine ⟨_, retN X0 hx (t := .boolean) Bd.returns (by simp) (hb hby d24_35) hr, fin _ _ _ hrun hended ?_ ⟨⟨_, rfl⟩, hW, hsame.mono (by decide) (by decide)⟩⟩
        show Q24 Z a1 p2 h0 n0 _ s₁.heap _
        rw [e0]
        exact ⟨_, rfl, (own_B.yes (by decide) ⟨hc7, Or.inr hc27⟩), N0, rfl⟩
      refine own_xifYes X0 hx hby d24_27 (pc0 := 27) (pc' := 34) ((if0 _ _).trans (feq (fun q => hc27 ((lw_eq (p2 % (400 : Int64)) (0 : Int64)).mp q))).2) rfl (by decide) (by decide) ?_
      refine own_xiconst X0 hx hby d24_34 0 rfl ?_
      obtain ⟨fs, hr, hrun, hended, hW, hsame⟩ := X0.leave (v := some (.int (nar .boolean (0 : Int32)))) (fun h => by rw [Bd.returns] at h; cases h)
      refine ⟨_, retN X0 hx (t := .boolean) Bd.returns (by simp) (hb hby d24_35) hr, fin _ _ _ hrun hended ?_ ⟨⟨_, rfl⟩, hW, hsame.mono (by decide) (by decide)⟩⟩
      show Q24 Z a1 p2 h0 n0 _ s₁.heap _
      rw [e0]
      exact ⟨_, rfl, (own_B.no (by decide) fun q => q.2.elim (fun z => z hc17) hc27), N0, rfl⟩
    refine own_xifYes X0 hx hby d24_17 (pc0 := 17) (pc' := 30) ((if0 _ _).trans (feq (fun q => hc17 ((lw_eq (p2 % (100 : Int64)) (0 : Int64)).mp q))).2) rfl (by decide) (by decide) ?_
    refine own_xiconst X0 hx hby d24_30 1 rfl ?_
    refine own_xgoto X0 hx hby d24_31 (pc0 := 31) (pc' := 35) rfl (by decide) (by decide) ?_
    obtain ⟨fs, hr, hrun, hended, hW, hsame⟩ := X0.leave (v := some (.int (nar .boolean (1 : Int32)))) (fun h => by rw [Bd.returns] at h; cases h)
    refine ⟨_, retN X0 hx (t := .boolean) Bd.returns (by simp) (hb hby d24_35) hr, fin _ _ _ hrun hended ?_ ⟨⟨_, rfl⟩, hW, hsame.mono (by decide) (by decide)⟩⟩
    show Q24 Z a1 p2 h0 n0 _ s₁.heap _
    rw [e0]
    exact ⟨_, rfl, (own_B.yes (by decide) ⟨hc7, Or.inl hc17⟩), N0, rfl⟩
  refine own_xifYes X0 hx hby d24_7 (pc0 := 7) (pc' := 34) ((if0 _ _).trans (feq (fun q => hc7 ((lw_eq (p2 &&& (3 : Int64)) (0 : Int64)).mp q))).2) rfl (by decide) (by decide) ?_
  refine own_xiconst X0 hx hby d24_34 0 rfl ?_
  obtain ⟨fs, hr, hrun, hended, hW, hsame⟩ := X0.leave (v := some (.int (nar .boolean (0 : Int32)))) (fun h => by rw [Bd.returns] at h; cases h)
  refine ⟨_, retN X0 hx (t := .boolean) Bd.returns (by simp) (hb hby d24_35) hr, fin _ _ _ hrun hended ?_ ⟨⟨_, rfl⟩, hW, hsame.mono (by decide) (by decide)⟩⟩
  show Q24 Z a1 p2 h0 n0 _ s₁.heap _
  rw [e0]
  exact ⟨_, rfl, (own_B.no (by decide) fun q => hc7 q.1), N0, rfl⟩
theorem d23_0 : decode oB23 0 = .ok (.getstatic 70, 3) := by decide +kernel
theorem d23_3 : decode oB23 3 = .ok (.aload_n 0, 1) := by decide +kernel
theorem d23_4 : decode oB23 4 = .ok (.getfield 246, 3) := by decide +kernel
theorem d23_7 : decode oB23 7 = .ok (.i2l, 1) := by decide +kernel
theorem d23_8 : decode oB23 8 = .ok (.invokevirtual 76, 3) := by decide +kernel
theorem d23_11 : decode oB23 11 = .ok (.ireturn, 1) := by decide +kernel
theorem pn_23 : plainName own_cD = true := by first | (simp [plainName, overriddenIn]; done) | decide +kernel
theorem pd_23_17 : parseMethodDescriptor "(J)Z" = some ⟨[.long], some .boolean⟩ := by decide +kernel
theorem ef_23 (m : MethodId) (x0 : Addr) : entryFrame m #[(.ref x0)] 1 = mkF m 0 #[own_R x0] [] := by first | (simp [entryFrame, mkF, argsToLocals, Value.category]; done) | rfl
def Q23 (Z : State) (a1 : Addr) (xx : Nat → Nat) (yy : Int32) (h0 : Heap) (n0 : Nat) (v : Option Value) (h : Heap) (L : List Loc) : Prop := ∃ (r : Int32), v = some (.int r) ∧ (own_B ((yy.toInt64 &&& (3 : Int64)) = (0 : Int64) ∧ (¬ (yy.toInt64 % (100 : Int64)) = (0 : Int64) ∨ (yy.toInt64 % (400 : Int64)) = (0 : Int64))) r) ∧ Fr n0 L ∧ h = h0
theorem rm23 (l : Launch) (Z : State) (a0 : Array Value) (hw : ∀ d ∈ tables_1, d.before a0 Z = true) (ws_ : List Jvm.Cond) (a1 : Addr) (xx : Nat → Nat) (yy : Int32) (h0 : Heap) (n0 : Nat) (Z0 : n0 ≤ h0.size) (P0 : Fld Z h0 a1 own_cD "year" "I" (.int yy)) (P1 : Old Z n0 h0) (HP : own_P Z xx) :
    own_Met l own_mt23 oB23 1 (some .boolean) ws_ ({ frames := 1, cells := 0, slots := 0, locals := 14 } : Room) #[(.ref a1)] Z h0 (Q23 Z a1 xx yy h0 n0) := by
  refine own_met n0 (plainFor_of_name pn_23) (fun m => ef_23 m a1) ?_
  intro p e s m below meth c s₁ Bd hZ hx hby hml hown' hnm X0 e0 N0 K fin
  have hown : s.vm.findClass own_cD = some m.cls := hown'
  show own_Go p e below K (s₁.setTop (mkF m 0 #[own_R a1] []))
  obtain ⟨T1, X1, e1, st1⟩ := getS2 X0 hx hZ hown (host := "") (Or.inl (own_w hw 210 rfl)) Via.refl e0 (HP.2.2.2.2.2.2.2.2.2.2.2.2.2.2.2.2.1.ext P1.2) (g := (mkF m 0 #[own_R a1] [])) rfl (hb hby d23_0)
  refine own_st st1 ?_
  refine own_xaloadN X1 hx hby d23_3 rfl rfl ?_
  obtain ⟨T2, X2, e2, st2⟩ := getF X1 hx hZ hown (host := "") (Or.inl (own_w hw 183 rfl)) Via.refl e1 P0 (g := (mkF m 4 #[own_R a1] [(.ref a1), (.ref (xx 8))])) rfl rfl (hb hby d23_4)
  refine own_st st2 ?_
  refine own_xi2l X2 hx hby d23_7 ?_
  have q3 : Exa Z h0 (xx 8) "java/time/chrono/IsoChronology" := HP.2.2.2.2.2.2.2.2.2.2.2.2.2.2.2.2.2.1.ext P1.2
  obtain ⟨cq4, kq4, qv4a, qv4b, qv4c⟩ := isOf hZ e2 q3
  obtain ⟨_, T4, L4, Lc4, X4, hQ4, Nf4, st4⟩ := own_back (cells := 0) (slots := 0) (rc := 0) (rs := 0) N0 (X2.virtualBack hx (y := own_mt24) (z := own_mt24) hown (mvT hZ (own_w hw 212 rfl)) (mvT hZ (own_w hw 213 rfl)) (notFace_of_selects (args := #[]) (mvT hZ (own_w hw 215 rfl))) (mvT hZ (own_w hw 215 rfl)) (mvT hZ (own_w hw 214 rfl)) (by decide) (backOf (W := 0) (rm24 l Z a0 hw [] (xx 8) (yy.toInt64) h0 n0 Z0) hZ (own_w hw 216 rfl) (own_w hw 211 rfl) (by decide) (by decide)) qv4a qv4c (g := (mkF m 8 #[own_R a1] [(.long (yy.toInt64)), (.ref (xx 8))])) rfl (by rw [hml]; rfl) (Steps.refl _) (argsL := [(.long (yy.toInt64))]) (rest := []) (lenOf pd_23_17 rfl) rfl (by show 2 * 0 + _ ≤ _; exact Nat.le_of_eq rfl) (hb hby d23_8) (fun _ _ => ⟨rfl, e2, (by decide : 0 + 0 ≤ _), (by decide : 0 + 0 ≤ _)⟩))
  obtain ⟨r4, rfl, hr4, N4q, e4⟩ := hQ4
  have N4 := Nf4 N4q
  refine own_tr st4 ?_
  obtain ⟨fs, hr, hrun, hended, hW, hsame⟩ := X4.leave (v := some (.int (nar .boolean r4))) (fun h => by rw [Bd.returns] at h; cases h)
  refine ⟨_, retN X4 hx (t := .boolean) Bd.returns (by simp) (hb hby d23_11) hr, fin _ _ _ hrun hended ?_ ⟨⟨_, rfl⟩, hW, hsame.mono (by decide) (by decide)⟩⟩
  show Q23 Z a1 xx yy h0 n0 _ T4.heap _
  rw [e4]
  exact ⟨_, rfl, (own_B.and1 hr4), N4, rfl⟩
theorem d22_0 : decode oB22 0 = .ok (.aload_n 0, 1) := by decide +kernel
theorem d22_1 : decode oB22 1 = .ok (.getfield 246, 3) := by decide +kernel
theorem d22_4 : decode oB22 4 = .ok (.i2l, 1) := by decide +kernel
theorem d22_5 : decode oB22 5 = .ok (.lstore_n 1, 1) := by decide +kernel
theorem d22_6 : decode oB22 6 = .ok (.aload_n 0, 1) := by decide +kernel
theorem d22_7 : decode oB22 7 = .ok (.getfield 250, 3) := by decide +kernel
theorem d22_10 : decode oB22 10 = .ok (.i2l, 1) := by decide +kernel
theorem d22_11 : decode oB22 11 = .ok (.lstore_n 3, 1) := by decide +kernel
theorem d22_12 : decode oB22 12 = .ok (.lconst 0, 1) := by decide +kernel
theorem d22_13 : decode oB22 13 = .ok (.lstore 5, 2) := by decide +kernel
theorem d22_15 : decode oB22 15 = .ok (.lload 5, 2) := by decide +kernel
theorem d22_17 : decode oB22 17 = .ok (.ldc2_w 174, 3) := by decide +kernel
theorem d22_20 : decode oB22 20 = .ok (.lload_n 1, 1) := by decide +kernel
theorem d22_21 : decode oB22 21 = .ok (.lmul, 1) := by decide +kernel
theorem d22_22 : decode oB22 22 = .ok (.ladd, 1) := by decide +kernel
theorem d22_23 : decode oB22 23 = .ok (.lstore 5, 2) := by decide +kernel
theorem d22_25 : decode oB22 25 = .ok (.lload_n 1, 1) := by decide +kernel
theorem d22_26 : decode oB22 26 = .ok (.lconst 0, 1) := by decide +kernel
theorem d22_27 : decode oB22 27 = .ok (.lcmp, 1) := by decide +kernel
theorem d22_28 : decode oB22 28 = .ok (.ifCond .lt 40, 3) := by decide +kernel
theorem d22_31 : decode oB22 31 = .ok (.lload 5, 2) := by decide +kernel
theorem d22_33 : decode oB22 33 = .ok (.lload_n 1, 1) := by decide +kernel
theorem d22_34 : decode oB22 34 = .ok (.ldc2_w 370, 3) := by decide +kernel
theorem d22_37 : decode oB22 37 = .ok (.ladd, 1) := by decide +kernel
theorem d22_38 : decode oB22 38 = .ok (.ldc2_w 176, 3) := by decide +kernel
theorem d22_41 : decode oB22 41 = .ok (.ldiv, 1) := by decide +kernel
theorem d22_42 : decode oB22 42 = .ok (.lload_n 1, 1) := by decide +kernel
theorem d22_43 : decode oB22 43 = .ok (.ldc2_w 654, 3) := by decide +kernel
theorem d22_46 : decode oB22 46 = .ok (.ladd, 1) := by decide +kernel
theorem d22_47 : decode oB22 47 = .ok (.ldc2_w 178, 3) := by decide +kernel
theorem d22_50 : decode oB22 50 = .ok (.ldiv, 1) := by decide +kernel
theorem d22_51 : decode oB22 51 = .ok (.lsub, 1) := by decide +kernel
theorem d22_52 : decode oB22 52 = .ok (.lload_n 1, 1) := by decide +kernel
theorem d22_53 : decode oB22 53 = .ok (.ldc2_w 656, 3) := by decide +kernel
theorem d22_56 : decode oB22 56 = .ok (.ladd, 1) := by decide +kernel
theorem d22_57 : decode oB22 57 = .ok (.ldc2_w 170, 3) := by decide +kernel
theorem d22_60 : decode oB22 60 = .ok (.ldiv, 1) := by decide +kernel
theorem d22_61 : decode oB22 61 = .ok (.ladd, 1) := by decide +kernel
theorem d22_62 : decode oB22 62 = .ok (.ladd, 1) := by decide +kernel
theorem d22_63 : decode oB22 63 = .ok (.lstore 5, 2) := by decide +kernel
theorem d22_65 : decode oB22 65 = .ok (.goto 25, 3) := by decide +kernel
theorem d22_68 : decode oB22 68 = .ok (.lload 5, 2) := by decide +kernel
theorem d22_70 : decode oB22 70 = .ok (.lload_n 1, 1) := by decide +kernel
theorem d22_71 : decode oB22 71 = .ok (.ldc2_w 658, 3) := by decide +kernel
theorem d22_74 : decode oB22 74 = .ok (.ldiv, 1) := by decide +kernel
theorem d22_75 : decode oB22 75 = .ok (.lload_n 1, 1) := by decide +kernel
theorem d22_76 : decode oB22 76 = .ok (.ldc2_w 660, 3) := by decide +kernel
theorem d22_79 : decode oB22 79 = .ok (.ldiv, 1) := by decide +kernel
theorem d22_80 : decode oB22 80 = .ok (.lsub, 1) := by decide +kernel
theorem d22_81 : decode oB22 81 = .ok (.lload_n 1, 1) := by decide +kernel
theorem d22_82 : decode oB22 82 = .ok (.ldc2_w 662, 3) := by decide +kernel
theorem d22_85 : decode oB22 85 = .ok (.ldiv, 1) := by decide +kernel
theorem d22_86 : decode oB22 86 = .ok (.ladd, 1) := by decide +kernel
theorem d22_87 : decode oB22 87 = .ok (.lsub, 1) := by decide +kernel
theorem d22_88 : decode oB22 88 = .ok (.lstore 5, 2) := by decide +kernel
theorem d22_90 : decode oB22 90 = .ok (.lload 5, 2) := by decide +kernel
theorem d22_92 : decode oB22 92 = .ok (.ldc2_w 664, 3) := by decide +kernel
theorem d22_95 : decode oB22 95 = .ok (.lload_n 3, 1) := by decide +kernel
theorem d22_96 : decode oB22 96 = .ok (.lmul, 1) := by decide +kernel
theorem d22_97 : decode oB22 97 = .ok (.ldc2_w 666, 3) := by decide +kernel
theorem d22_100 : decode oB22 100 = .ok (.lsub, 1) := by decide +kernel
theorem d22_101 : decode oB22 101 = .ok (.ldc2_w 359, 3) := by decide +kernel
theorem d22_104 : decode oB22 104 = .ok (.ldiv, 1) := by decide +kernel
theorem d22_105 : decode oB22 105 = .ok (.ladd, 1) := by decide +kernel
theorem d22_106 : decode oB22 106 = .ok (.lstore 5, 2) := by decide +kernel
theorem d22_108 : decode oB22 108 = .ok (.lload 5, 2) := by decide +kernel
theorem d22_110 : decode oB22 110 = .ok (.aload_n 0, 1) := by decide +kernel
theorem d22_111 : decode oB22 111 = .ok (.getfield 253, 3) := by decide +kernel
theorem d22_114 : decode oB22 114 = .ok (.iconst 1, 1) := by decide +kernel
theorem d22_115 : decode oB22 115 = .ok (.isub, 1) := by decide +kernel
theorem d22_116 : decode oB22 116 = .ok (.i2l, 1) := by decide +kernel
theorem d22_117 : decode oB22 117 = .ok (.ladd, 1) := by decide +kernel
theorem d22_118 : decode oB22 118 = .ok (.lstore 5, 2) := by decide +kernel
theorem d22_120 : decode oB22 120 = .ok (.lload_n 3, 1) := by decide +kernel
theorem d22_121 : decode oB22 121 = .ok (.ldc2_w 668, 3) := by decide +kernel
theorem d22_124 : decode oB22 124 = .ok (.lcmp, 1) := by decide +kernel
theorem d22_125 : decode oB22 125 = .ok (.ifCond .le 22, 3) := by decide +kernel
theorem d22_128 : decode oB22 128 = .ok (.lload 5, 2) := by decide +kernel
theorem d22_130 : decode oB22 130 = .ok (.lconst 1, 1) := by decide +kernel
theorem d22_131 : decode oB22 131 = .ok (.lsub, 1) := by decide +kernel
theorem d22_132 : decode oB22 132 = .ok (.lstore 5, 2) := by decide +kernel
theorem d22_134 : decode oB22 134 = .ok (.aload_n 0, 1) := by decide +kernel
theorem d22_135 : decode oB22 135 = .ok (.invokevirtual 297, 3) := by decide +kernel
theorem d22_138 : decode oB22 138 = .ok (.ifCond .ne 9, 3) := by decide +kernel
theorem d22_141 : decode oB22 141 = .ok (.lload 5, 2) := by decide +kernel
theorem d22_143 : decode oB22 143 = .ok (.lconst 1, 1) := by decide +kernel
theorem d22_144 : decode oB22 144 = .ok (.lsub, 1) := by decide +kernel
theorem d22_145 : decode oB22 145 = .ok (.lstore 5, 2) := by decide +kernel
theorem d22_147 : decode oB22 147 = .ok (.lload 5, 2) := by decide +kernel
theorem d22_149 : decode oB22 149 = .ok (.ldc2_w 164, 3) := by decide +kernel
theorem d22_152 : decode oB22 152 = .ok (.lsub, 1) := by decide +kernel
theorem d22_153 : decode oB22 153 = .ok (.lreturn, 1) := by decide +kernel
theorem pn_22 : plainName own_cD = true := by first | (simp [plainName, overriddenIn]; done) | decide +kernel
theorem pd_22_7 : parseMethodDescriptor "()Z" = some ⟨[], some .boolean⟩ := by decide +kernel
theorem ef_22 (m : MethodId) (x0 : Addr) : entryFrame m #[(.ref x0)] 7 = mkF m 0 #[own_R x0, .unset, .unset, .unset, .unset, .unset, .unset] [] := by first | (simp [entryFrame, mkF, argsToLocals, Value.category]; done) | rfl
def Q22 (Z : State) (a1 : Addr) (xx : Nat → Nat) (yy : Int32) (mm : Int32) (dd : Int32) (h0 : Heap) (n0 : Nat) (v : Option Value) (h : Heap) (L : List Loc) : Prop := ∃ (r : Int64), v = some (.long r) ∧ (r = own_ted yy mm dd) ∧ Fr n0 L ∧ h = h0
theorem rm22 (l : Launch) (Z : State) (a0 : Array Value) (hw : ∀ d ∈ tables_1, d.before a0 Z = true) (ws_ : List Jvm.Cond) (a1 : Addr) (xx : Nat → Nat) (yy : Int32) (mm : Int32) (dd : Int32) (h0 : Heap) (n0 : Nat) (Z0 : n0 ≤ h0.size) (P0 : Exa Z h0 a1 own_cD) (P1 : Fld Z h0 a1 own_cD "year" "I" (.int yy)) (P2 : Fld Z h0 a1 own_cD "month" "S" (.int mm)) (P3 : Fld Z h0 a1 own_cD "day" "S" (.int dd)) (P4 : Old Z n0 h0) (HP : own_P Z xx) :
    own_Met l own_mt22 oB22 7 (some .long) ws_ ({ frames := 2, cells := 0, slots := 0, locals := 26 } : Room) #[(.ref a1)] Z h0 (Q22 Z a1 xx yy mm dd h0 n0) := by
  refine own_met n0 (plainFor_of_name pn_22) (fun m => ef_22 m a1) ?_
  intro p e s m below meth c s₁ Bd hZ hx hby hml hown' hnm X0 e0 N0 K fin
  have hown : s.vm.findClass own_cD = some m.cls := hown'
  show own_Go p e below K (s₁.setTop (mkF m 0 #[own_R a1, own_U, own_U, own_U, own_U, own_U, own_U] []))
  refine own_xaloadN X0 hx hby d22_0 rfl rfl ?_
  obtain ⟨T1, X1, e1, st1⟩ := getF X0 hx hZ hown (host := "") (Or.inl (own_w hw 183 rfl)) Via.refl e0 P1 (g := (mkF m 1 #[own_R a1, own_U, own_U, own_U, own_U, own_U, own_U] [(.ref a1)])) rfl rfl (hb hby d22_1)
  refine own_st st1 ?_
  try clear st1
  refine own_xi2l X1 hx hby d22_4 ?_
  refine own_xlstoreN X1 hx hby d22_5 (l' := #[own_R a1, own_J (yy.toInt64), .second, own_U, own_U, own_U, own_U]) rfl ?_
  refine own_xaloadN X1 hx hby d22_6 rfl rfl ?_
  obtain ⟨T2, X2, e2, st2⟩ := getF X1 hx hZ hown (host := "") (Or.inl (own_w hw 185 rfl)) Via.refl e1 P2 (g := (mkF m 7 #[own_R a1, own_J (yy.toInt64), .second, own_U, own_U, own_U, own_U] [(.ref a1)])) rfl rfl (hb hby d22_7)
  refine own_st st2 ?_
  try clear X1 e1 st2
  refine own_xi2l X2 hx hby d22_10 ?_
  refine own_xlstoreN X2 hx hby d22_11 (l' := #[own_R a1, own_J (yy.toInt64), .second, own_J (mm.toInt64), .second, own_U, own_U]) rfl ?_
  refine own_st (fun _ => XS.lconst X2.here hx rfl (hb hby d22_12)) ?_
  refine own_xlstore X2 hx hby d22_13 (l' := #[own_R a1, own_J (yy.toInt64), .second, own_J (mm.toInt64), .second, own_J 0, .second]) rfl ?_
  refine own_xlload X2 hx hby d22_15 rfl ?_
  refine own_st (X2.ldc2Long hx hown (mvT hZ (own_w hw 187 rfl)) (g := (mkF m 17 #[own_R a1, own_J (yy.toInt64), .second, own_J (mm.toInt64), .second, own_J 0, .second] [(.long 0)])) rfl (hb hby d22_17)) ?_
  refine own_xlloadN X2 hx hby d22_20 rfl ?_
  refine own_xlmul X2 hx hby d22_21 ?_
  refine own_xladd X2 hx hby d22_22 ?_
  refine own_xlstore X2 hx hby d22_23 (l' := #[own_R a1, own_J (yy.toInt64), .second, own_J (mm.toInt64), .second, own_J ((0 : Int64) + ((365 : Int64) * (yy.toInt64))), .second]) rfl ?_
  refine own_xlloadN X2 hx hby d22_25 rfl ?_
  refine own_st (fun _ => XS.lconst X2.here hx rfl (hb hby d22_26)) ?_
  refine own_xlcmp X2 hx hby d22_27 ?_
  by_cases hc28 : (yy.toInt64) < (0 : Int64)
  · refine own_xifYes X2 hx hby d22_28 (pc0 := 28) (pc' := 68) ((if0 _ _).trans (tlt ((lw_lt (yy.toInt64) (0 : Int64)).mpr hc28)).1) rfl (by decide) (by decide) ?_
    refine own_xlload X2 hx hby d22_68 rfl ?_
    refine own_xlloadN X2 hx hby d22_70 rfl ?_
    refine own_st (X2.ldc2Long hx hown (mvT hZ (own_w hw 188 rfl)) (g := (mkF m 71 #[own_R a1, own_J (yy.toInt64), .second, own_J (mm.toInt64), .second, own_J ((0 : Int64) + ((365 : Int64) * (yy.toInt64))), .second] [(.long (yy.toInt64)), (.long ((0 : Int64) + ((365 : Int64) * (yy.toInt64))))])) rfl (hb hby d22_71)) ?_
    refine own_xldiv X2 hx hby d22_74 (by decide) ?_
    refine own_xlloadN X2 hx hby d22_75 rfl ?_
    refine own_st (X2.ldc2Long hx hown (mvT hZ (own_w hw 189 rfl)) (g := (mkF m 76 #[own_R a1, own_J (yy.toInt64), .second, own_J (mm.toInt64), .second, own_J ((0 : Int64) + ((365 : Int64) * (yy.toInt64))), .second] [(.long (yy.toInt64)), (.long ((yy.toInt64) / (-4 : Int64))), (.long ((0 : Int64) + ((365 : Int64) * (yy.toInt64))))])) rfl (hb hby d22_76)) ?_
    refine own_xldiv X2 hx hby d22_79 (by decide) ?_
    refine own_xlsub X2 hx hby d22_80 ?_
    refine own_xlloadN X2 hx hby d22_81 rfl ?_
    refine own_st (X2.ldc2Long hx hown (mvT hZ (own_w hw 190 rfl)) (g := (mkF m 82 #[own_R a1, own_J (yy.toInt64), .second, own_J (mm.toInt64), .second, own_J ((0 : Int64) + ((365 : Int64) * (yy.toInt64))), .second] [(.long (yy.toInt64)), (.long (((yy.toInt64) / (-4 : Int64)) - ((yy.toInt64) / (-100 : Int64)))), (.long ((0 : Int64) + ((365 : Int64) * (yy.toInt64))))])) rfl (hb hby d22_82)) ?_
    show own_Go p e below K (T2.setTop (mkF m 85 #[own_R a1, own_J (yy.toInt64), .second, own_J (mm.toInt64), .second, own_J ((0 : Int64) + ((365 : Int64) * (yy.toInt64))), .second] [(.long (-400)), (.long (yy.toInt64)), (.long (((yy.toInt64) / (-4 : Int64)) - ((yy.toInt64) / (-100 : Int64)))), (.long ((0 : Int64) + ((365 : Int64) * (yy.toInt64))))]))
    refine own_xldiv X2 hx hby d22_85 (by decide) ?_
    refine own_xladd X2 hx hby d22_86 ?_
    refine own_xlsub X2 hx hby d22_87 ?_
    refine own_xlstore X2 hx hby d22_88 (l' := #[own_R a1, own_J (yy.toInt64), .second, own_J (mm.toInt64), .second, own_J (((0 : Int64) + ((365 : Int64) * (yy.toInt64))) - ((((yy.toInt64) / (-4 : Int64)) - ((yy.toInt64) / (-100 : Int64))) + ((yy.toInt64) / (-400 : Int64)))), .second]) rfl ?_
    refine own_xlload X2 hx hby d22_90 rfl ?_
    refine own_st (X2.ldc2Long hx hown (mvT hZ (own_w hw 191 rfl)) (g := (mkF m 92 #[own_R a1, own_J (yy.toInt64), .second, own_J (mm.toInt64), .second, own_J (((0 : Int64) + ((365 : Int64) * (yy.toInt64))) - ((((yy.toInt64) / (-4 : Int64)) - ((yy.toInt64) / (-100 : Int64))) + ((yy.toInt64) / (-400 : Int64)))), .second] [(.long (((0 : Int64) + ((365 : Int64) * (yy.toInt64))) - ((((yy.toInt64) / (-4 : Int64)) - ((yy.toInt64) / (-100 : Int64))) + ((yy.toInt64) / (-400 : Int64)))))])) rfl (hb hby d22_92)) ?_
    refine own_xlloadN X2 hx hby d22_95 rfl ?_
    refine own_xlmul X2 hx hby d22_96 ?_
    refine own_st (X2.ldc2Long hx hown (mvT hZ (own_w hw 192 rfl)) (g := (mkF m 97 #[own_R a1, own_J (yy.toInt64), .second, own_J (mm.toInt64), .second, own_J (((0 : Int64) + ((365 : Int64) * (yy.toInt64))) - ((((yy.toInt64) / (-4 : Int64)) - ((yy.toInt64) / (-100 : Int64))) + ((yy.toInt64) / (-400 : Int64)))), .second] [(.long ((367 : Int64) * (mm.toInt64))), (.long (((0 : Int64) + ((365 : Int64) * (yy.toInt64))) - ((((yy.toInt64) / (-4 : Int64)) - ((yy.toInt64) / (-100 : Int64))) + ((yy.toInt64) / (-400 : Int64)))))])) rfl (hb hby d22_97)) ?_
    refine own_xlsub X2 hx hby d22_100 ?_
    refine own_st (X2.ldc2Long hx hown (mvT hZ (own_w hw 193 rfl)) (g := (mkF m 101 #[own_R a1, own_J (yy.toInt64), .second, own_J (mm.toInt64), .second, own_J (((0 : Int64) + ((365 : Int64) * (yy.toInt64))) - ((((yy.toInt64) / (-4 : Int64)) - ((yy.toInt64) / (-100 : Int64))) + ((yy.toInt64) / (-400 : Int64)))), .second] [(.long (((367 : Int64) * (mm.toInt64)) - (362 : Int64))), (.long (((0 : Int64) + ((365 : Int64) * (yy.toInt64))) - ((((yy.toInt64) / (-4 : Int64)) - ((yy.toInt64) / (-100 : Int64))) + ((yy.toInt64) / (-400 : Int64)))))])) rfl (hb hby d22_101)) ?_
    refine own_xldiv X2 hx hby d22_104 (by decide) ?_
    refine own_xladd X2 hx hby d22_105 ?_
    refine own_xlstore X2 hx hby d22_106 (l' := #[own_R a1, own_J (yy.toInt64), .second, own_J (mm.toInt64), .second, own_J ((((0 : Int64) + ((365 : Int64) * (yy.toInt64))) - ((((yy.toInt64) / (-4 : Int64)) - ((yy.toInt64) / (-100 : Int64))) + ((yy.toInt64) / (-400 : Int64)))) + ((((367 : Int64) * (mm.toInt64)) - (362 : Int64)) / (12 : Int64))), .second]) rfl ?_
    refine own_xlload X2 hx hby d22_108 rfl ?_
    refine own_xaloadN X2 hx hby d22_110 rfl rfl ?_
    obtain ⟨T3, X3, e3, st3⟩ := getF X2 hx hZ hown (host := "") (Or.inl (own_w hw 194 rfl)) Via.refl e2 P3 (g := (mkF m 111 #[own_R a1, own_J (yy.toInt64), .second, own_J (mm.toInt64), .second, own_J ((((0 : Int64) + ((365 : Int64) * (yy.toInt64))) - ((((yy.toInt64) / (-4 : Int64)) - ((yy.toInt64) / (-100 : Int64))) + ((yy.toInt64) / (-400 : Int64)))) + ((((367 : Int64) * (mm.toInt64)) - (362 : Int64)) / (12 : Int64))), .second] [(.ref a1), (.long ((((0 : Int64) + ((365 : Int64) * (yy.toInt64))) - ((((yy.toInt64) / (-4 : Int64)) - ((yy.toInt64) / (-100 : Int64))) + ((yy.toInt64) / (-400 : Int64)))) + ((((367 : Int64) * (mm.toInt64)) - (362 : Int64)) / (12 : Int64))))])) rfl rfl (hb hby d22_111)
    refine own_st st3 ?_
    try clear X2 e2 st3
    refine own_xiconst X3 hx hby d22_114 1 rfl ?_
    refine own_xisub X3 hx hby d22_115 ?_
    refine own_xi2l X3 hx hby d22_116 ?_
    refine own_xladd X3 hx hby d22_117 ?_
    refine own_xlstore X3 hx hby d22_118 (l' := #[own_R a1, own_J (yy.toInt64), .second, own_J (mm.toInt64), .second, own_J (((((0 : Int64) + ((365 : Int64) * (yy.toInt64))) - ((((yy.toInt64) / (-4 : Int64)) - ((yy.toInt64) / (-100 : Int64))) + ((yy.toInt64) / (-400 : Int64)))) + ((((367 : Int64) * (mm.toInt64)) - (362 : Int64)) / (12 : Int64))) + ((dd - (1 : Int32)).toInt64)), .second]) rfl ?_
    refine own_xlloadN X3 hx hby d22_120 rfl ?_
    refine own_st (X3.ldc2Long hx hown (mvT hZ (own_w hw 196 rfl)) (g := (mkF m 121 #[own_R a1, own_J (yy.toInt64), .second, own_J (mm.toInt64), .second, own_J (((((0 : Int64) + ((365 : Int64) * (yy.toInt64))) - ((((yy.toInt64) / (-4 : Int64)) - ((yy.toInt64) / (-100 : Int64))) + ((yy.toInt64) / (-400 : Int64)))) + ((((367 : Int64) * (mm.toInt64)) - (362 : Int64)) / (12 : Int64))) + ((dd - (1 : Int32)).toInt64)), .second] [(.long (mm.toInt64))])) rfl (hb hby d22_121)) ?_
    refine own_xlcmp X3 hx hby d22_124 ?_
    by_cases hc125 : (2 : Int64) < (mm.toInt64)
    · refine own_xifNo X3 hx hby d22_125 ((if0 _ _).trans (tlt ((lw_gt (mm.toInt64) (2 : Int64)).mpr hc125)).2.2.2) ?_
      refine own_xlload X3 hx hby d22_128 rfl ?_
      refine own_st (fun _ => XS.lconst X3.here hx rfl (hb hby d22_130)) ?_
      refine own_xlsub X3 hx hby d22_131 ?_
      refine own_xlstore X3 hx hby d22_132 (l' := #[own_R a1, own_J (yy.toInt64), .second, own_J (mm.toInt64), .second, own_J ((((((0 : Int64) + ((365 : Int64) * (yy.toInt64))) - ((((yy.toInt64) / (-4 : Int64)) - ((yy.toInt64) / (-100 : Int64))) + ((yy.toInt64) / (-400 : Int64)))) + ((((367 : Int64) * (mm.toInt64)) - (362 : Int64)) / (12 : Int64))) + ((dd - (1 : Int32)).toInt64)) - (1 : Int64)), .second]) rfl ?_
      show own_Go p e below K (T3.setTop (mkF m 134 #[own_R a1, own_J (yy.toInt64), .second, own_J (mm.toInt64), .second, own_J ((((((0 : Int64) + ((365 : Int64) * (yy.toInt64))) - ((((yy.toInt64) / (-4 : Int64)) - ((yy.toInt64) / (-100 : Int64))) + ((yy.toInt64) / (-400 : Int64)))) + ((((367 : Int64) * (mm.toInt64)) - (362 : Int64)) / (12 : Int64))) + ((dd - (1 : Int32)).toInt64)) - (1 : Int64)), .second] []))
      refine own_xaloadN X3 hx hby d22_134 rfl rfl ?_
      obtain ⟨cq4, kq4, qv4a, qv4b, qv4c⟩ := isOf hZ e3 P0
      obtain ⟨_, T4, L4, Lc4, X4, hQ4, Nf4, st4⟩ := own_back (cells := 0) (slots := 0) (rc := 0) (rs := 0) N0 (X3.virtualBack hx (y := own_mt23) (z := own_mt23) hown (mvT hZ (own_w hw 205 rfl)) (mvT hZ (own_w hw 206 rfl)) (notFace_of_selects (args := #[]) (mvT hZ (own_w hw 208 rfl))) (mvT hZ (own_w hw 208 rfl)) (mvT hZ (own_w hw 207 rfl)) (by decide) (backOf (W := 0) (rm23 l Z a0 hw [] a1 xx (yy) h0 n0 Z0 P1 P4 (by assumption)) hZ (own_w hw 209 rfl) (own_w hw 177 rfl) (by decide) (by decide)) qv4a qv4c (g := (mkF m 135 #[own_R a1, own_J (yy.toInt64), .second, own_J (mm.toInt64), .second, own_J ((((((0 : Int64) + ((365 : Int64) * (yy.toInt64))) - ((((yy.toInt64) / (-4 : Int64)) - ((yy.toInt64) / (-100 : Int64))) + ((yy.toInt64) / (-400 : Int64)))) + ((((367 : Int64) * (mm.toInt64)) - (362 : Int64)) / (12 : Int64))) + ((dd - (1 : Int32)).toInt64)) - (1 : Int64)), .second] [(.ref a1)])) rfl (by rw [hml]; rfl) (Steps.refl _) (argsL := []) (rest := []) (lenOf pd_22_7 rfl) rfl (by show 2 * 0 + _ ≤ _; exact Nat.le_of_eq rfl) (hb hby d22_135) (fun _ _ => ⟨rfl, e3, (by decide : 0 + 0 ≤ _), (by decide : 0 + 0 ≤ _)⟩))
      obtain ⟨r4, rfl, hr4, N4q, e4⟩ := hQ4
      have N4 := Nf4 N4q
      refine own_tr st4 ?_
      try clear X3 e3 st4 N4q
      by_cases hc138 : r4 = (0 : Int32)
      · refine own_xifNo X4 hx hby d22_138 ((if0 _ _).trans (teq hc138).2) ?_
        refine own_xlload X4 hx hby d22_141 rfl ?_
        refine own_st (fun _ => XS.lconst X4.here hx rfl (hb hby d22_143)) ?_
        refine own_xlsub X4 hx hby d22_144 ?_
        refine own_xlstore X4 hx hby d22_145 (l' := #[own_R a1, own_J (yy.toInt64), .second, own_J (mm.toInt64), .second, own_J (((((((0 : Int64) + ((365 : Int64) * (yy.toInt64))) - ((((yy.toInt64) / (-4 : Int64)) - ((yy.toInt64) / (-100 : Int64))) + ((yy.toInt64) / (-400 : Int64)))) + ((((367 : Int64) * (mm.toInt64)) - (362 : Int64)) / (12 : Int64))) + ((dd - (1 : Int32)).toInt64)) - (1 : Int64)) - (1 : Int64)), .second]) rfl ?_
        refine own_xlload X4 hx hby d22_147 rfl ?_
        refine own_st (X4.ldc2Long hx hown (mvT hZ (own_w hw 197 rfl)) (g := (mkF m 149 #[own_R a1, own_J (yy.toInt64), .second, own_J (mm.toInt64), .second, own_J (((((((0 : Int64) + ((365 : Int64) * (yy.toInt64))) - ((((yy.toInt64) / (-4 : Int64)) - ((yy.toInt64) / (-100 : Int64))) + ((yy.toInt64) / (-400 : Int64)))) + ((((367 : Int64) * (mm.toInt64)) - (362 : Int64)) / (12 : Int64))) + ((dd - (1 : Int32)).toInt64)) - (1 : Int64)) - (1 : Int64)), .second] [(.long (((((((0 : Int64) + ((365 : Int64) * (yy.toInt64))) - ((((yy.toInt64) / (-4 : Int64)) - ((yy.toInt64) / (-100 : Int64))) + ((yy.toInt64) / (-400 : Int64)))) + ((((367 : Int64) * (mm.toInt64)) - (362 : Int64)) / (12 : Int64))) + ((dd - (1 : Int32)).toInt64)) - (1 : Int64)) - (1 : Int64)))])) rfl (hb hby d22_149)) ?_
        refine own_xlsub X4 hx hby d22_152 ?_
        obtain ⟨fs, hr, hrun, hended, hW, hsame⟩ := X4.leave (v := some (.long ((((((((0 : Int64) + ((365 : Int64) * (yy.toInt64))) - ((((yy.toInt64) / (-4 : Int64)) - ((yy.toInt64) / (-100 : Int64))) + ((yy.toInt64) / (-400 : Int64)))) + ((((367 : Int64) * (mm.toInt64)) - (362 : Int64)) / (12 : Int64))) + ((dd - (1 : Int32)).toInt64)) - (1 : Int64)) - (1 : Int64)) - (719528 : Int64)))) (fun h => by rw [Bd.returns] at h; cases h)
        refine ⟨_, X4.lreturnOut hx Bd.returns (hb hby d22_153) hr, fin _ _ _ hrun hended ?_ ⟨⟨_, rfl⟩, hW, hsame.mono (by decide) (by decide)⟩⟩
        show Q22 Z a1 xx yy mm dd h0 n0 _ T4.heap _
        rw [e4]
        exact ⟨_, rfl, (by unfold own_ted own_t2 own_t1; rw [if_pos hc125, if_neg (hr4.fails hc138), if_pos hc28]), N4, rfl⟩
      refine own_xifYes X4 hx hby d22_138 (pc0 := 138) (pc' := 147) ((if0 _ _).trans (feq hc138).2) rfl (by decide) (by decide) ?_
      refine own_xlload X4 hx hby d22_147 rfl ?_
      refine own_st (X4.ldc2Long hx hown (mvT hZ (own_w hw 197 rfl)) (g := (mkF m 149 #[own_R a1, own_J (yy.toInt64), .second, own_J (mm.toInt64), .second, own_J ((((((0 : Int64) + ((365 : Int64) * (yy.toInt64))) - ((((yy.toInt64) / (-4 : Int64)) - ((yy.toInt64) / (-100 : Int64))) + ((yy.toInt64) / (-400 : Int64)))) + ((((367 : Int64) * (mm.toInt64)) - (362 : Int64)) / (12 : Int64))) + ((dd - (1 : Int32)).toInt64)) - (1 : Int64)), .second] [(.long ((((((0 : Int64) + ((365 : Int64) * (yy.toInt64))) - ((((yy.toInt64) / (-4 : Int64)) - ((yy.toInt64) / (-100 : Int64))) + ((yy.toInt64) / (-400 : Int64)))) + ((((367 : Int64) * (mm.toInt64)) - (362 : Int64)) / (12 : Int64))) + ((dd - (1 : Int32)).toInt64)) - (1 : Int64)))])) rfl (hb hby d22_149)) ?_
      refine own_xlsub X4 hx hby d22_152 ?_
      obtain ⟨fs, hr, hrun, hended, hW, hsame⟩ := X4.leave (v := some (.long (((((((0 : Int64) + ((365 : Int64) * (yy.toInt64))) - ((((yy.toInt64) / (-4 : Int64)) - ((yy.toInt64) / (-100 : Int64))) + ((yy.toInt64) / (-400 : Int64)))) + ((((367 : Int64) * (mm.toInt64)) - (362 : Int64)) / (12 : Int64))) + ((dd - (1 : Int32)).toInt64)) - (1 : Int64)) - (719528 : Int64)))) (fun h => by rw [Bd.returns] at h; cases h)
      refine ⟨_, X4.lreturnOut hx Bd.returns (hb hby d22_153) hr, fin _ _ _ hrun hended ?_ ⟨⟨_, rfl⟩, hW, hsame.mono (by decide) (by decide)⟩⟩
      show Q22 Z a1 xx yy mm dd h0 n0 _ T4.heap _
      rw [e4]
      exact ⟨_, rfl, (by unfold own_ted own_t2 own_t1; rw [if_pos hc125, if_pos (hr4.holds hc138), if_pos hc28]), N4, rfl⟩
    refine own_xifYes X3 hx hby d22_125 (pc0 := 125) (pc' := 147) ((if0 _ _).trans (flt (fun q => hc125 ((lw_gt (mm.toInt64) (2 : Int64)).mp q))).2.2.2) rfl (by decide) (by decide) ?_
    refine own_xlload X3 hx hby d22_147 rfl ?_
    refine own_st (X3.ldc2Long hx hown (mvT hZ (own_w hw 197 rfl)) (g := (mkF m 149 #[own_R a1, own_J (yy.toInt64), .second, own_J (mm.toInt64), .second, own_J (((((0 : Int64) + ((365 : Int64) * (yy.toInt64))) - ((((yy.toInt64) / (-4 : Int64)) - ((yy.toInt64) / (-100 : Int64))) + ((yy.toInt64) / (-400 : Int64)))) + ((((367 : Int64) * (mm.toInt64)) - (362 : Int64)) / (12 : Int64))) + ((dd - (1 : Int32)).toInt64)), .second] [(.long (((((0 : Int64) + ((365 : Int64) * (yy.toInt64))) - ((((yy.toInt64) / (-4 : Int64)) - ((yy.toInt64) / (-100 : Int64))) + ((yy.toInt64) / (-400 : Int64)))) + ((((367 : Int64) * (mm.toInt64)) - (362 : Int64)) / (12 : Int64))) + ((dd - (1 : Int32)).toInt64)))])) rfl (hb hby d22_149)) ?_
    refine own_xlsub X3 hx hby d22_152 ?_
    obtain ⟨fs, hr, hrun, hended, hW, hsame⟩ := X3.leave (v := some (.long ((((((0 : Int64) + ((365 : Int64) * (yy.toInt64))) - ((((yy.toInt64) / (-4 : Int64)) - ((yy.toInt64) / (-100 : Int64))) + ((yy.toInt64) / (-400 : Int64)))) + ((((367 : Int64) * (mm.toInt64)) - (362 : Int64)) / (12 : Int64))) + ((dd - (1 : Int32)).toInt64)) - (719528 : Int64)))) (fun h => by rw [Bd.returns] at h; cases h)
    refine ⟨_, X3.lreturnOut hx Bd.returns (hb hby d22_153) hr, fin _ _ _ hrun hended ?_ ⟨⟨_, rfl⟩, hW, hsame.mono (by decide) (by decide)⟩⟩
    show Q22 Z a1 xx yy mm dd h0 n0 _ T3.heap _
    rw [e3]
    exact ⟨_, rfl, (by unfold own_ted own_t2 own_t1; rw [if_neg hc125, if_pos hc28]), N0, rfl⟩
  refine own_xifNo X2 hx hby d22_28 ((if0 _ _).trans (flt (fun q => hc28 ((lw_lt (yy.toInt64) (0 : Int64)).mp q))).1) ?_
  refine own_xlload X2 hx hby d22_31 rfl ?_
  refine own_xlloadN X2 hx hby d22_33 rfl ?_
  refine own_st (X2.ldc2Long hx hown (mvT hZ (own_w hw 199 rfl)) (g := (mkF m 34 #[own_R a1, own_J (yy.toInt64), .second, own_J (mm.toInt64), .second, own_J ((0 : Int64) + ((365 : Int64) * (yy.toInt64))), .second] [(.long (yy.toInt64)), (.long ((0 : Int64) + ((365 : Int64) * (yy.toInt64))))])) rfl (hb hby d22_34)) ?_
  refine own_xladd X2 hx hby d22_37 ?_
  refine own_st (X2.ldc2Long hx hown (mvT hZ (own_w hw 200 rfl)) (g := (mkF m 38 #[own_R a1, own_J (yy.toInt64), .second, own_J (mm.toInt64), .second, own_J ((0 : Int64) + ((365 : Int64) * (yy.toInt64))), .second] [(.long ((yy.toInt64) + (3 : Int64))), (.long ((0 : Int64) + ((365 : Int64) * (yy.toInt64))))])) rfl (hb hby d22_38)) ?_
  refine own_xldiv X2 hx hby d22_41 (by decide) ?_
  refine own_xlloadN X2 hx hby d22_42 rfl ?_
  refine own_st (X2.ldc2Long hx hown (mvT hZ (own_w hw 201 rfl)) (g := (mkF m 43 #[own_R a1, own_J (yy.toInt64), .second, own_J (mm.toInt64), .second, own_J ((0 : Int64) + ((365 : Int64) * (yy.toInt64))), .second] [(.long (yy.toInt64)), (.long (((yy.toInt64) + (3 : Int64)) / (4 : Int64))), (.long ((0 : Int64) + ((365 : Int64) * (yy.toInt64))))])) rfl (hb hby d22_43)) ?_
  refine own_xladd X2 hx hby d22_46 ?_
  refine own_st (X2.ldc2Long hx hown (mvT hZ (own_w hw 202 rfl)) (g := (mkF m 47 #[own_R a1, own_J (yy.toInt64), .second, own_J (mm.toInt64), .second, own_J ((0 : Int64) + ((365 : Int64) * (yy.toInt64))), .second] [(.long ((yy.toInt64) + (99 : Int64))), (.long (((yy.toInt64) + (3 : Int64)) / (4 : Int64))), (.long ((0 : Int64) + ((365 : Int64) * (yy.toInt64))))])) rfl (hb hby d22_47)) ?_
  show own_Go p e below K (T2.setTop (mkF m 50 #[own_R a1, own_J (yy.toInt64), .second, own_J (mm.toInt64), .second, own_J ((0 : Int64) + ((365 : Int64) * (yy.toInt64))), .second] [(.long 100), (.long ((yy.toInt64) + (99 : Int64))), (.long (((yy.toInt64) + (3 : Int64)) / (4 : Int64))), (.long ((0 : Int64) + ((365 : Int64) * (yy.toInt64))))]))
  refine own_xldiv X2 hx hby d22_50 (by decide) ?_
  refine own_xlsub X2 hx hby d22_51 ?_
  refine own_xlloadN X2 hx hby d22_52 rfl ?_
  refine own_st (X2.ldc2Long hx hown (mvT hZ (own_w hw 203 rfl)) (g := (mkF m 53 #[own_R a1, own_J (yy.toInt64), .second, own_J (mm.toInt64), .second, own_J ((0 : Int64) + ((365 : Int64) * (yy.toInt64))), .second] [(.long (yy.toInt64)), (.long ((((yy.toInt64) + (3 : Int64)) / (4 : Int64)) - (((yy.toInt64) + (99 : Int64)) / (100 : Int64)))), (.long ((0 : Int64) + ((365 : Int64) * (yy.toInt64))))])) rfl (hb hby d22_53)) ?_
  refine own_xladd X2 hx hby d22_56 ?_
  refine own_st (X2.ldc2Long hx hown (mvT hZ (own_w hw 204 rfl)) (g := (mkF m 57 #[own_R a1, own_J (yy.toInt64), .second, own_J (mm.toInt64), .second, own_J ((0 : Int64) + ((365 : Int64) * (yy.toInt64))), .second] [(.long ((yy.toInt64) + (399 : Int64))), (.long ((((yy.toInt64) + (3 : Int64)) / (4 : Int64)) - (((yy.toInt64) + (99 : Int64)) / (100 : Int64)))), (.long ((0 : Int64) + ((365 : Int64) * (yy.toInt64))))])) rfl (hb hby d22_57)) ?_
  refine own_xldiv X2 hx hby d22_60 (by decide) ?_
  refine own_xladd X2 hx hby d22_61 ?_
  refine own_xladd X2 hx hby d22_62 ?_
  refine own_xlstore X2 hx hby d22_63 (l' := #[own_R a1, own_J (yy.toInt64), .second, own_J (mm.toInt64), .second, own_J (((0 : Int64) + ((365 : Int64) * (yy.toInt64))) + (((((yy.toInt64) + (3 : Int64)) / (4 : Int64)) - (((yy.toInt64) + (99 : Int64)) / (100 : Int64))) + (((yy.toInt64) + (399 : Int64)) / (400 : Int64)))), .second]) rfl ?_
  refine own_xgoto X2 hx hby d22_65 (pc0 := 65) (pc' := 90) rfl (by decide) (by decide) ?_
  refine own_xlload X2 hx hby d22_90 rfl ?_
  refine own_st (X2.ldc2Long hx hown (mvT hZ (own_w hw 191 rfl)) (g := (mkF m 92 #[own_R a1, own_J (yy.toInt64), .second, own_J (mm.toInt64), .second, own_J (((0 : Int64) + ((365 : Int64) * (yy.toInt64))) + (((((yy.toInt64) + (3 : Int64)) / (4 : Int64)) - (((yy.toInt64) + (99 : Int64)) / (100 : Int64))) + (((yy.toInt64) + (399 : Int64)) / (400 : Int64)))), .second] [(.long (((0 : Int64) + ((365 : Int64) * (yy.toInt64))) + (((((yy.toInt64) + (3 : Int64)) / (4 : Int64)) - (((yy.toInt64) + (99 : Int64)) / (100 : Int64))) + (((yy.toInt64) + (399 : Int64)) / (400 : Int64)))))])) rfl (hb hby d22_92)) ?_
  refine own_xlloadN X2 hx hby d22_95 rfl ?_
  refine own_xlmul X2 hx hby d22_96 ?_
  refine own_st (X2.ldc2Long hx hown (mvT hZ (own_w hw 192 rfl)) (g := (mkF m 97 #[own_R a1, own_J (yy.toInt64), .second, own_J (mm.toInt64), .second, own_J (((0 : Int64) + ((365 : Int64) * (yy.toInt64))) + (((((yy.toInt64) + (3 : Int64)) / (4 : Int64)) - (((yy.toInt64) + (99 : Int64)) / (100 : Int64))) + (((yy.toInt64) + (399 : Int64)) / (400 : Int64)))), .second] [(.long ((367 : Int64) * (mm.toInt64))), (.long (((0 : Int64) + ((365 : Int64) * (yy.toInt64))) + (((((yy.toInt64) + (3 : Int64)) / (4 : Int64)) - (((yy.toInt64) + (99 : Int64)) / (100 : Int64))) + (((yy.toInt64) + (399 : Int64)) / (400 : Int64)))))])) rfl (hb hby d22_97)) ?_
  refine own_xlsub X2 hx hby d22_100 ?_
  refine own_st (X2.ldc2Long hx hown (mvT hZ (own_w hw 193 rfl)) (g := (mkF m 101 #[own_R a1, own_J (yy.toInt64), .second, own_J (mm.toInt64), .second, own_J (((0 : Int64) + ((365 : Int64) * (yy.toInt64))) + (((((yy.toInt64) + (3 : Int64)) / (4 : Int64)) - (((yy.toInt64) + (99 : Int64)) / (100 : Int64))) + (((yy.toInt64) + (399 : Int64)) / (400 : Int64)))), .second] [(.long (((367 : Int64) * (mm.toInt64)) - (362 : Int64))), (.long (((0 : Int64) + ((365 : Int64) * (yy.toInt64))) + (((((yy.toInt64) + (3 : Int64)) / (4 : Int64)) - (((yy.toInt64) + (99 : Int64)) / (100 : Int64))) + (((yy.toInt64) + (399 : Int64)) / (400 : Int64)))))])) rfl (hb hby d22_101)) ?_
  refine own_xldiv X2 hx hby d22_104 (by decide) ?_
  refine own_xladd X2 hx hby d22_105 ?_
  refine own_xlstore X2 hx hby d22_106 (l' := #[own_R a1, own_J (yy.toInt64), .second, own_J (mm.toInt64), .second, own_J ((((0 : Int64) + ((365 : Int64) * (yy.toInt64))) + (((((yy.toInt64) + (3 : Int64)) / (4 : Int64)) - (((yy.toInt64) + (99 : Int64)) / (100 : Int64))) + (((yy.toInt64) + (399 : Int64)) / (400 : Int64)))) + ((((367 : Int64) * (mm.toInt64)) - (362 : Int64)) / (12 : Int64))), .second]) rfl ?_
  refine own_xlload X2 hx hby d22_108 rfl ?_
  refine own_xaloadN X2 hx hby d22_110 rfl rfl ?_
  obtain ⟨T5, X5, e5, st5⟩ := getF X2 hx hZ hown (host := "") (Or.inl (own_w hw 194 rfl)) Via.refl e2 P3 (g := (mkF m 111 #[own_R a1, own_J (yy.toInt64), .second, own_J (mm.toInt64), .second, own_J ((((0 : Int64) + ((365 : Int64) * (yy.toInt64))) + (((((yy.toInt64) + (3 : Int64)) / (4 : Int64)) - (((yy.toInt64) + (99 : Int64)) / (100 : Int64))) + (((yy.toInt64) + (399 : Int64)) / (400 : Int64)))) + ((((367 : Int64) * (mm.toInt64)) - (362 : Int64)) / (12 : Int64))), .second] [(.ref a1), (.long ((((0 : Int64) + ((365 : Int64) * (yy.toInt64))) + (((((yy.toInt64) + (3 : Int64)) / (4 : Int64)) - (((yy.toInt64) + (99 : Int64)) / (100 : Int64))) + (((yy.toInt64) + (399 : Int64)) / (400 : Int64)))) + ((((367 : Int64) * (mm.toInt64)) - (362 : Int64)) / (12 : Int64))))])) rfl rfl (hb hby d22_111)
  refine own_st st5 ?_
  try clear X2 e2 st5
  refine own_xiconst X5 hx hby d22_114 1 rfl ?_
  refine own_xisub X5 hx hby d22_115 ?_
  refine own_xi2l X5 hx hby d22_116 ?_
  refine own_xladd X5 hx hby d22_117 ?_
  refine own_xlstore X5 hx hby d22_118 (l' := #[own_R a1, own_J (yy.toInt64), .second, own_J (mm.toInt64), .second, own_J (((((0 : Int64) + ((365 : Int64) * (yy.toInt64))) + (((((yy.toInt64) + (3 : Int64)) / (4 : Int64)) - (((yy.toInt64) + (99 : Int64)) / (100 : Int64))) + (((yy.toInt64) + (399 : Int64)) / (400 : Int64)))) + ((((367 : Int64) * (mm.toInt64)) - (362 : Int64)) / (12 : Int64))) + ((dd - (1 : Int32)).toInt64)), .second]) rfl ?_
  refine own_xlloadN X5 hx hby d22_120 rfl ?_
  show own_Go p e below K (T5.setTop (mkF m 121 #[own_R a1, own_J (yy.toInt64), .second, own_J (mm.toInt64), .second, own_J (((((0 : Int64) + ((365 : Int64) * (yy.toInt64))) + (((((yy.toInt64) + (3 : Int64)) / (4 : Int64)) - (((yy.toInt64) + (99 : Int64)) / (100 : Int64))) + (((yy.toInt64) + (399 : Int64)) / (400 : Int64)))) + ((((367 : Int64) * (mm.toInt64)) - (362 : Int64)) / (12 : Int64))) + ((dd - (1 : Int32)).toInt64)), .second] [(.long (mm.toInt64))]))
  refine own_st (X5.ldc2Long hx hown (mvT hZ (own_w hw 196 rfl)) (g := (mkF m 121 #[own_R a1, own_J (yy.toInt64), .second, own_J (mm.toInt64), .second, own_J (((((0 : Int64) + ((365 : Int64) * (yy.toInt64))) + (((((yy.toInt64) + (3 : Int64)) / (4 : Int64)) - (((yy.toInt64) + (99 : Int64)) / (100 : Int64))) + (((yy.toInt64) + (399 : Int64)) / (400 : Int64)))) + ((((367 : Int64) * (mm.toInt64)) - (362 : Int64)) / (12 : Int64))) + ((dd - (1 : Int32)).toInt64)), .second] [(.long (mm.toInt64))])) rfl (hb hby d22_121)) ?_
  refine own_xlcmp X5 hx hby d22_124 ?_
  by_cases hc125 : (2 : Int64) < (mm.toInt64)
  · refine own_xifNo X5 hx hby d22_125 ((if0 _ _).trans (tlt ((lw_gt (mm.toInt64) (2 : Int64)).mpr hc125)).2.2.2) ?_
    refine own_xlload X5 hx hby d22_128 rfl ?_
    refine own_st (fun _ => XS.lconst X5.here hx rfl (hb hby d22_130)) ?_
    refine own_xlsub X5 hx hby d22_131 ?_
    refine own_xlstore X5 hx hby d22_132 (l' := #[own_R a1, own_J (yy.toInt64), .second, own_J (mm.toInt64), .second, own_J ((((((0 : Int64) + ((365 : Int64) * (yy.toInt64))) + (((((yy.toInt64) + (3 : Int64)) / (4 : Int64)) - (((yy.toInt64) + (99 : Int64)) / (100 : Int64))) + (((yy.toInt64) + (399 : Int64)) / (400 : Int64)))) + ((((367 : Int64) * (mm.toInt64)) - (362 : Int64)) / (12 : Int64))) + ((dd - (1 : Int32)).toInt64)) - (1 : Int64)), .second]) rfl ?_
    refine own_xaloadN X5 hx hby d22_134 rfl rfl ?_
    obtain ⟨cq6, kq6, qv6a, qv6b, qv6c⟩ := isOf hZ e5 P0
    obtain ⟨_, T6, L6, Lc6, X6, hQ6, Nf6, st6⟩ := own_back (cells := 0) (slots := 0) (rc := 0) (rs := 0) N0 (X5.virtualBack hx (y := own_mt23) (z := own_mt23) hown (mvT hZ (own_w hw 205 rfl)) (mvT hZ (own_w hw 206 rfl)) (notFace_of_selects (args := #[]) (mvT hZ (own_w hw 208 rfl))) (mvT hZ (own_w hw 208 rfl)) (mvT hZ (own_w hw 207 rfl)) (by decide) (backOf (W := 0) (rm23 l Z a0 hw [] a1 xx (yy) h0 n0 Z0 P1 P4 (by assumption)) hZ (own_w hw 209 rfl) (own_w hw 177 rfl) (by decide) (by decide)) qv6a qv6c (g := (mkF m 135 #[own_R a1, own_J (yy.toInt64), .second, own_J (mm.toInt64), .second, own_J ((((((0 : Int64) + ((365 : Int64) * (yy.toInt64))) + (((((yy.toInt64) + (3 : Int64)) / (4 : Int64)) - (((yy.toInt64) + (99 : Int64)) / (100 : Int64))) + (((yy.toInt64) + (399 : Int64)) / (400 : Int64)))) + ((((367 : Int64) * (mm.toInt64)) - (362 : Int64)) / (12 : Int64))) + ((dd - (1 : Int32)).toInt64)) - (1 : Int64)), .second] [(.ref a1)])) rfl (by rw [hml]; rfl) (Steps.refl _) (argsL := []) (rest := []) (lenOf pd_22_7 rfl) rfl (by show 2 * 0 + _ ≤ _; exact Nat.le_of_eq rfl) (hb hby d22_135) (fun _ _ => ⟨rfl, e5, (by decide : 0 + 0 ≤ _), (by decide : 0 + 0 ≤ _)⟩))
    obtain ⟨r6, rfl, hr6, N6q, e6⟩ := hQ6
    have N6 := Nf6 N6q
    refine own_tr st6 ?_
    try clear X5 e5 st6 N6q
    by_cases hc138 : r6 = (0 : Int32)
    · refine own_xifNo X6 hx hby d22_138 ((if0 _ _).trans (teq hc138).2) ?_
      refine own_xlload X6 hx hby d22_141 rfl ?_
      refine own_st (fun _ => XS.lconst X6.here hx rfl (hb hby d22_143)) ?_
      refine own_xlsub X6 hx hby d22_144 ?_
      refine own_xlstore X6 hx hby d22_145 (l' := #[own_R a1, own_J (yy.toInt64), .second, own_J (mm.toInt64), .second, own_J (((((((0 : Int64) + ((365 : Int64) * (yy.toInt64))) + (((((yy.toInt64) + (3 : Int64)) / (4 : Int64)) - (((yy.toInt64) + (99 : Int64)) / (100 : Int64))) + (((yy.toInt64) + (399 : Int64)) / (400 : Int64)))) + ((((367 : Int64) * (mm.toInt64)) - (362 : Int64)) / (12 : Int64))) + ((dd - (1 : Int32)).toInt64)) - (1 : Int64)) - (1 : Int64)), .second]) rfl ?_
      refine own_xlload X6 hx hby d22_147 rfl ?_
      refine own_st (X6.ldc2Long hx hown (mvT hZ (own_w hw 197 rfl)) (g := (mkF m 149 #[own_R a1, own_J (yy.toInt64), .second, own_J (mm.toInt64), .second, own_J (((((((0 : Int64) + ((365 : Int64) * (yy.toInt64))) + (((((yy.toInt64) + (3 : Int64)) / (4 : Int64)) - (((yy.toInt64) + (99 : Int64)) / (100 : Int64))) + (((yy.toInt64) + (399 : Int64)) / (400 : Int64)))) + ((((367 : Int64) * (mm.toInt64)) - (362 : Int64)) / (12 : Int64))) + ((dd - (1 : Int32)).toInt64)) - (1 : Int64)) - (1 : Int64)), .second] [(.long (((((((0 : Int64) + ((365 : Int64) * (yy.toInt64))) + (((((yy.toInt64) + (3 : Int64)) / (4 : Int64)) - (((yy.toInt64) + (99 : Int64)) / (100 : Int64))) + (((yy.toInt64) + (399 : Int64)) / (400 : Int64)))) + ((((367 : Int64) * (mm.toInt64)) - (362 : Int64)) / (12 : Int64))) + ((dd - (1 : Int32)).toInt64)) - (1 : Int64)) - (1 : Int64)))])) rfl (hb hby d22_149)) ?_
      refine own_xlsub X6 hx hby d22_152 ?_
      obtain ⟨fs, hr, hrun, hended, hW, hsame⟩ := X6.leave (v := some (.long ((((((((0 : Int64) + ((365 : Int64) * (yy.toInt64))) + (((((yy.toInt64) + (3 : Int64)) / (4 : Int64)) - (((yy.toInt64) + (99 : Int64)) / (100 : Int64))) + (((yy.toInt64) + (399 : Int64)) / (400 : Int64)))) + ((((367 : Int64) * (mm.toInt64)) - (362 : Int64)) / (12 : Int64))) + ((dd - (1 : Int32)).toInt64)) - (1 : Int64)) - (1 : Int64)) - (719528 : Int64)))) (fun h => by rw [Bd.returns] at h; cases h)
      refine ⟨_, X6.lreturnOut hx Bd.returns (hb hby d22_153) hr, fin _ _ _ hrun hended ?_ ⟨⟨_, rfl⟩, hW, hsame.mono (by decide) (by decide)⟩⟩
      show Q22 Z a1 xx yy mm dd h0 n0 _ T6.heap _
      rw [e6]
      exact ⟨_, rfl, (by unfold own_ted own_t2 own_t1; rw [if_pos hc125, if_neg (hr6.fails hc138), if_neg hc28]), N6, rfl⟩
    refine own_xifYes X6 hx hby d22_138 (pc0 := 138) (pc' := 147) ((if0 _ _).trans (feq hc138).2) rfl (by decide) (by decide) ?_
    refine own_xlload X6 hx hby d22_147 rfl ?_
    refine own_st (X6.ldc2Long hx hown (mvT hZ (own_w hw 197 rfl)) (g := (mkF m 149 #[own_R a1, own_J (yy.toInt64), .second, own_J (mm.toInt64), .second, own_J ((((((0 : Int64) + ((365 : Int64) * (yy.toInt64))) + (((((yy.toInt64) + (3 : Int64)) / (4 : Int64)) - (((yy.toInt64) + (99 : Int64)) / (100 : Int64))) + (((yy.toInt64) + (399 : Int64)) / (400 : Int64)))) + ((((367 : Int64) * (mm.toInt64)) - (362 : Int64)) / (12 : Int64))) + ((dd - (1 : Int32)).toInt64)) - (1 : Int64)), .second] [(.long ((((((0 : Int64) + ((365 : Int64) * (yy.toInt64))) + (((((yy.toInt64) + (3 : Int64)) / (4 : Int64)) - (((yy.toInt64) + (99 : Int64)) / (100 : Int64))) + (((yy.toInt64) + (399 : Int64)) / (400 : Int64)))) + ((((367 : Int64) * (mm.toInt64)) - (362 : Int64)) / (12 : Int64))) + ((dd - (1 : Int32)).toInt64)) - (1 : Int64)))])) rfl (hb hby d22_149)) ?_
    refine own_xlsub X6 hx hby d22_152 ?_
    obtain ⟨fs, hr, hrun, hended, hW, hsame⟩ := X6.leave (v := some (.long (((((((0 : Int64) + ((365 : Int64) * (yy.toInt64))) + (((((yy.toInt64) + (3 : Int64)) / (4 : Int64)) - (((yy.toInt64) + (99 : Int64)) / (100 : Int64))) + (((yy.toInt64) + (399 : Int64)) / (400 : Int64)))) + ((((367 : Int64) * (mm.toInt64)) - (362 : Int64)) / (12 : Int64))) + ((dd - (1 : Int32)).toInt64)) - (1 : Int64)) - (719528 : Int64)))) (fun h => by rw [Bd.returns] at h; cases h)
    refine ⟨_, X6.lreturnOut hx Bd.returns (hb hby d22_153) hr, fin _ _ _ hrun hended ?_ ⟨⟨_, rfl⟩, hW, hsame.mono (by decide) (by decide)⟩⟩
    show Q22 Z a1 xx yy mm dd h0 n0 _ T6.heap _
    rw [e6]
    exact ⟨_, rfl, (by unfold own_ted own_t2 own_t1; rw [if_pos hc125, if_pos (hr6.holds hc138), if_neg hc28]), N6, rfl⟩
  refine own_xifYes X5 hx hby d22_125 (pc0 := 125) (pc' := 147) ((if0 _ _).trans (flt (fun q => hc125 ((lw_gt (mm.toInt64) (2 : Int64)).mp q))).2.2.2) rfl (by decide) (by decide) ?_
  refine own_xlload X5 hx hby d22_147 rfl ?_
  refine own_st (X5.ldc2Long hx hown (mvT hZ (own_w hw 197 rfl)) (g := (mkF m 149 #[own_R a1, own_J (yy.toInt64), .second, own_J (mm.toInt64), .second, own_J (((((0 : Int64) + ((365 : Int64) * (yy.toInt64))) + (((((yy.toInt64) + (3 : Int64)) / (4 : Int64)) - (((yy.toInt64) + (99 : Int64)) / (100 : Int64))) + (((yy.toInt64) + (399 : Int64)) / (400 : Int64)))) + ((((367 : Int64) * (mm.toInt64)) - (362 : Int64)) / (12 : Int64))) + ((dd - (1 : Int32)).toInt64)), .second] [(.long (((((0 : Int64) + ((365 : Int64) * (yy.toInt64))) + (((((yy.toInt64) + (3 : Int64)) / (4 : Int64)) - (((yy.toInt64) + (99 : Int64)) / (100 : Int64))) + (((yy.toInt64) + (399 : Int64)) / (400 : Int64)))) + ((((367 : Int64) * (mm.toInt64)) - (362 : Int64)) / (12 : Int64))) + ((dd - (1 : Int32)).toInt64)))])) rfl (hb hby d22_149)) ?_
  refine own_xlsub X5 hx hby d22_152 ?_
  obtain ⟨fs, hr, hrun, hended, hW, hsame⟩ := X5.leave (v := some (.long ((((((0 : Int64) + ((365 : Int64) * (yy.toInt64))) + (((((yy.toInt64) + (3 : Int64)) / (4 : Int64)) - (((yy.toInt64) + (99 : Int64)) / (100 : Int64))) + (((yy.toInt64) + (399 : Int64)) / (400 : Int64)))) + ((((367 : Int64) * (mm.toInt64)) - (362 : Int64)) / (12 : Int64))) + ((dd - (1 : Int32)).toInt64)) - (719528 : Int64)))) (fun h => by rw [Bd.returns] at h; cases h)
  refine ⟨_, X5.lreturnOut hx Bd.returns (hb hby d22_153) hr, fin _ _ _ hrun hended ?_ ⟨⟨_, rfl⟩, hW, hsame.mono (by decide) (by decide)⟩⟩
  show Q22 Z a1 xx yy mm dd h0 n0 _ T5.heap _
  rw [e5]
  exact ⟨_, rfl, (by unfold own_ted own_t2 own_t1; rw [if_neg hc125, if_neg hc28]), N0, rfl⟩
theorem d32_0 : decode oB32 0 = .ok (.aload_n 0, 1) := by decide +kernel
theorem d32_1 : decode oB32 1 = .ok (.invokespecial 243, 3) := by decide +kernel
theorem d32_4 : decode oB32 4 = .ok (.aload_n 0, 1) := by decide +kernel
theorem d32_5 : decode oB32 5 = .ok (.iload_n 1, 1) := by decide +kernel
theorem d32_6 : decode oB32 6 = .ok (.putfield 246, 3) := by decide +kernel
theorem d32_9 : decode oB32 9 = .ok (.aload_n 0, 1) := by decide +kernel
theorem d32_10 : decode oB32 10 = .ok (.iload_n 2, 1) := by decide +kernel
theorem d32_11 : decode oB32 11 = .ok (.i2s, 1) := by decide +kernel
theorem d32_12 : decode oB32 12 = .ok (.putfield 250, 3) := by decide +kernel
theorem d32_15 : decode oB32 15 = .ok (.aload_n 0, 1) := by decide +kernel
theorem d32_16 : decode oB32 16 = .ok (.iload_n 3, 1) := by decide +kernel
theorem d32_17 : decode oB32 17 = .ok (.i2s, 1) := by decide +kernel
theorem d32_18 : decode oB32 18 = .ok (.putfield 253, 3) := by decide +kernel
theorem d32_21 : decode oB32 21 = .ok (.return_, 1) := by decide +kernel
theorem pn_32 : plainName own_cD = true := by first | (simp [plainName, overriddenIn]; done) | decide +kernel
theorem ef_32 (m : MethodId) (x0 : Addr) (x1 : Int32) (x2 : Int32) (x3 : Int32) : entryFrame m #[(.ref x0), (.int x1), (.int x2), (.int x3)] 4 = mkF m 0 #[own_R x0, own_I x1, own_I x2, own_I x3] [] := by first | (simp [entryFrame, mkF, argsToLocals, Value.category]; done) | rfl
def Q32 (Z : State) (a1 : Addr) (p2 : Int32) (p3 : Int32) (p4 : Int32) (h0 : Heap) (n0 : Nat) (v : Option Value) (h : Heap) (L : List Loc) : Prop := v = none ∧ Fr n0 L ∧ Keep h0 h [a1] ∧ (Exa Z h a1 own_cD) ∧ (Fld Z h a1 own_cD "year" "I" (.int p2)) ∧ (Fld Z h a1 own_cD "month" "S" (.int (p3.toInt16.toInt32).toInt16.toInt32)) ∧ (Fld Z h a1 own_cD "day" "S" (.int (p4.toInt16.toInt32).toInt16.toInt32))
theorem rm32 (l : Launch) (Z : State) (a0 : Array Value) (hw : ∀ d ∈ tables_1, d.before a0 Z = true) (ws_ : List Jvm.Cond) (a1 : Addr) (p2 : Int32) (p3 : Int32) (p4 : Int32) (h0 : Heap) (n0 : Nat) (Z0 : n0 ≤ h0.size) (g_a1 : n0 ≤ a1) (P0 : Exa Z h0 a1 own_cD) (P1 : Fld Z h0 a1 own_cD "year" "I" (.int 0)) (P2 : Fld Z h0 a1 own_cD "month" "S" (.int 0)) (P3 : Fld Z h0 a1 own_cD "day" "S" (.int 0)) :
    own_Met l own_mt32 oB32 4 none ws_ ({ frames := 1, cells := 0, slots := 0, locals := 12 } : Room) #[(.ref a1), (.int p2), (.int p3), (.int p4)] Z h0 (Q32 Z a1 p2 p3 p4 h0 n0) := by
  refine own_met n0 (plainFor_of_name pn_32) (fun m => ef_32 m a1 p2 p3 p4) ?_
  intro p e s m below meth c s₁ Bd hZ hx hby hml hown' hnm X0 e0 N0 K fin
  have hown : s.vm.findClass own_cD = some m.cls := hown'
  show own_Go p e below K (s₁.setTop (mkF m 0 #[own_R a1, own_I p2, own_I p3, own_I p4] []))
  refine own_xaloadN X0 hx hby d32_0 rfl rfl ?_
  obtain ⟨T1, X1, e1, st1⟩ := initO X0 hx hZ hown (own_w hw 268 rfl) (own_w hw 12 rfl) (own_w hw 13 rfl) e0 (g := (mkF m 1 #[own_R a1, own_I p2, own_I p3, own_I p4] [(.ref a1)])) rfl (by rw [hml]; rfl) rfl (hb hby d32_1) (by decide) (W := 0) (by show 2 * 0 + _ ≤ _; exact Nat.le_of_eq rfl) (by decide)
  refine own_st st1 ?_
  show own_Go p e below K (T1.setTop (mkF m 4 #[own_R a1, own_I p2, own_I p3, own_I p4] []))
  refine own_xaloadN X1 hx hby d32_4 rfl rfl ?_
  refine own_xiloadN X1 hx hby d32_5 rfl ?_
  obtain ⟨T2, h2, X2, e2, W2, st2⟩ := putF X1 hx hZ hown (host := "") (Or.inl (own_w hw 183 rfl)) Via.refl e1 P1 P0 (Or.inr ⟨(own_w hw 184 rfl), rfl, hnm⟩) (own_w hw 264 rfl) (ty := .int) (by decide) rfl rfl (g := (mkF m 6 #[own_R a1, own_I p2, own_I p3, own_I p4] [(.int p2), (.ref a1)])) rfl rfl (hb hby d32_6)
  have fw2 : Fld Z h2 a1 own_cD "year" "I" (.int p2) := P1.same W2
  have f3 := P0.wr W2
  have f4 := P2.other W2 (Or.inr (slot_ne (Or.inr (own_w hw 186 rfl)) (Or.inr (own_w hw 184 rfl)) (by decide) (t := .short) (t' := .int) (by decide) (by decide)))
  have f5 := P3.other W2 (Or.inr (slot_ne (Or.inr (own_w hw 195 rfl)) (Or.inr (own_w hw 184 rfl)) (by decide) (t := .short) (t' := .int) (by decide) (by decide)))
  have N2 := Fr.snoc X2 N0 g_a1
  have Z2 := Nat.le_trans Z0 (Keep.of_wr W2).1
  have K2 : Keep h0 h2 [a1] := (Keep.refl h0 [a1]).wr W2 (Or.inl (List.mem_of_getElem? (i := 0) rfl))
  refine own_st st2 ?_
  refine own_xaloadN X2 hx hby d32_9 rfl rfl ?_
  refine own_xiloadN X2 hx hby d32_10 rfl ?_
  refine own_xi2s X2 hx hby d32_11 ?_
  obtain ⟨T6, h6, X6, e6, W6, st6⟩ := putFN X2 hx hZ hown (own_w hw 185 rfl) Via.refl e2 f4 f3 (Or.inr ⟨(own_w hw 186 rfl), rfl, hnm⟩) (own_w hw 264 rfl) (ty := .short) (v' := .int (p3.toInt16.toInt32).toInt16.toInt32) (by decide) rfl (fits_nar_short _) (g := (mkF m 12 #[own_R a1, own_I p2, own_I p3, own_I p4] [(.int (p3.toInt16.toInt32)), (.ref a1)])) rfl rfl (hb hby d32_12)
  have fw6 : Fld Z h6 a1 own_cD "month" "S" (.int (p3.toInt16.toInt32).toInt16.toInt32) := f4.same W6
  have f7 := f3.wr W6
  have f8 := fw2.other W6 (Or.inr (slot_ne (Or.inr (own_w hw 184 rfl)) (Or.inr (own_w hw 186 rfl)) (by decide) (t := .int) (t' := .short) (by decide) (by decide)))
  have f9 := f5.other W6 (Or.inr (slot_ne (Or.inr (own_w hw 195 rfl)) (Or.inr (own_w hw 186 rfl)) (by decide) (t := .short) (t' := .short) (by decide) (by decide)))
  have N6 := Fr.snoc X6 N2 g_a1
  have Z6 := Nat.le_trans Z2 (Keep.of_wr W6).1
  have K6 := K2.wr W6 (Or.inl (List.mem_of_getElem? (i := 0) rfl))
  refine own_st st6 ?_
  refine own_xaloadN X6 hx hby d32_15 rfl rfl ?_
  refine own_xiloadN X6 hx hby d32_16 rfl ?_
  refine own_xi2s X6 hx hby d32_17 ?_
  obtain ⟨T10, h10, X10, e10, W10, st10⟩ := putFN X6 hx hZ hown (own_w hw 194 rfl) Via.refl e6 f9 f7 (Or.inr ⟨(own_w hw 195 rfl), rfl, hnm⟩) (own_w hw 264 rfl) (ty := .short) (v' := .int (p4.toInt16.toInt32).toInt16.toInt32) (by decide) rfl (fits_nar_short _) (g := (mkF m 18 #[own_R a1, own_I p2, own_I p3, own_I p4] [(.int (p4.toInt16.toInt32)), (.ref a1)])) rfl rfl (hb hby d32_18)
  have fw10 : Fld Z h10 a1 own_cD "day" "S" (.int (p4.toInt16.toInt32).toInt16.toInt32) := f9.same W10
  have f11 := f7.wr W10
  have f12 := f8.other W10 (Or.inr (slot_ne (Or.inr (own_w hw 184 rfl)) (Or.inr (own_w hw 195 rfl)) (by decide) (t := .int) (t' := .short) (by decide) (by decide)))
  have f13 := fw6.other W10 (Or.inr (slot_ne (Or.inr (own_w hw 186 rfl)) (Or.inr (own_w hw 195 rfl)) (by decide) (t := .short) (t' := .short) (by decide) (by decide)))
  have N10 := Fr.snoc X10 N6 g_a1
  have Z10 := Nat.le_trans Z6 (Keep.of_wr W10).1
  have K10 := K6.wr W10 (Or.inl (List.mem_of_getElem? (i := 0) rfl))
  refine own_st st10 ?_
  obtain ⟨fs, hr, hrun, hended, hW, hsame⟩ := X10.leave (v := none) (fun _ => rfl)
  refine ⟨_, X10.returnOut hx Bd.returns (hb hby d32_21) hr, fin _ _ _ hrun hended ?_ ⟨⟨_, rfl⟩, hW, hsame.mono (by decide) (by decide)⟩⟩
  show Q32 Z a1 p2 p3 p4 h0 n0 _ T10.heap _
  rw [e10]
  exact ⟨rfl, N10, K10, f11, f12, f13, fw10⟩
theorem d25_0 : decode oB25 0 = .ok (.getstatic 161, 3) := by decide +kernel
theorem d25_3 : decode oB25 3 = .ok (.lload_n 0, 1) := by decide +kernel
theorem d25_4 : decode oB25 4 = .ok (.invokevirtual 45, 3) := by decide +kernel
theorem d25_7 : decode oB25 7 = .ok (.pop2, 1) := by decide +kernel
theorem d25_8 : decode oB25 8 = .ok (.lload_n 0, 1) := by decide +kernel
theorem d25_9 : decode oB25 9 = .ok (.ldc2_w 164, 3) := by decide +kernel
theorem d25_12 : decode oB25 12 = .ok (.ladd, 1) := by decide +kernel
theorem d25_13 : decode oB25 13 = .ok (.lstore_n 2, 1) := by decide +kernel
theorem d25_14 : decode oB25 14 = .ok (.lload_n 2, 1) := by decide +kernel
theorem d25_15 : decode oB25 15 = .ok (.ldc2_w 166, 3) := by decide +kernel
theorem d25_18 : decode oB25 18 = .ok (.lsub, 1) := by decide +kernel
theorem d25_19 : decode oB25 19 = .ok (.lstore_n 2, 1) := by decide +kernel
theorem d25_20 : decode oB25 20 = .ok (.lconst 0, 1) := by decide +kernel
theorem d25_21 : decode oB25 21 = .ok (.lstore 4, 2) := by decide +kernel
theorem d25_23 : decode oB25 23 = .ok (.lload_n 2, 1) := by decide +kernel
theorem d25_24 : decode oB25 24 = .ok (.lconst 0, 1) := by decide +kernel
theorem d25_25 : decode oB25 25 = .ok (.lcmp, 1) := by decide +kernel
theorem d25_26 : decode oB25 26 = .ok (.ifCond .ge 32, 3) := by decide +kernel
theorem d25_29 : decode oB25 29 = .ok (.lload_n 2, 1) := by decide +kernel
theorem d25_30 : decode oB25 30 = .ok (.lconst 1, 1) := by decide +kernel
theorem d25_31 : decode oB25 31 = .ok (.ladd, 1) := by decide +kernel
theorem d25_32 : decode oB25 32 = .ok (.ldc2_w 168, 3) := by decide +kernel
theorem d25_35 : decode oB25 35 = .ok (.ldiv, 1) := by decide +kernel
theorem d25_36 : decode oB25 36 = .ok (.lconst 1, 1) := by decide +kernel
theorem d25_37 : decode oB25 37 = .ok (.lsub, 1) := by decide +kernel
theorem d25_38 : decode oB25 38 = .ok (.lstore 6, 2) := by decide +kernel
theorem d25_40 : decode oB25 40 = .ok (.lload 6, 2) := by decide +kernel
theorem d25_42 : decode oB25 42 = .ok (.ldc2_w 170, 3) := by decide +kernel
theorem d25_45 : decode oB25 45 = .ok (.lmul, 1) := by decide +kernel
theorem d25_46 : decode oB25 46 = .ok (.lstore 4, 2) := by decide +kernel
theorem d25_48 : decode oB25 48 = .ok (.lload_n 2, 1) := by decide +kernel
theorem d25_49 : decode oB25 49 = .ok (.lload 6, 2) := by decide +kernel
theorem d25_51 : decode oB25 51 = .ok (.lneg, 1) := by decide +kernel
theorem d25_52 : decode oB25 52 = .ok (.ldc2_w 168, 3) := by decide +kernel
theorem d25_55 : decode oB25 55 = .ok (.lmul, 1) := by decide +kernel
theorem d25_56 : decode oB25 56 = .ok (.ladd, 1) := by decide +kernel
theorem d25_57 : decode oB25 57 = .ok (.lstore_n 2, 1) := by decide +kernel
theorem d25_58 : decode oB25 58 = .ok (.ldc2_w 170, 3) := by decide +kernel
theorem d25_61 : decode oB25 61 = .ok (.lload_n 2, 1) := by decide +kernel
theorem d25_62 : decode oB25 62 = .ok (.lmul, 1) := by decide +kernel
theorem d25_63 : decode oB25 63 = .ok (.ldc2_w 172, 3) := by decide +kernel
theorem d25_66 : decode oB25 66 = .ok (.ladd, 1) := by decide +kernel
theorem d25_67 : decode oB25 67 = .ok (.ldc2_w 168, 3) := by decide +kernel
theorem d25_70 : decode oB25 70 = .ok (.ldiv, 1) := by decide +kernel
theorem d25_71 : decode oB25 71 = .ok (.lstore 6, 2) := by decide +kernel
theorem d25_73 : decode oB25 73 = .ok (.lload_n 2, 1) := by decide +kernel
theorem d25_74 : decode oB25 74 = .ok (.ldc2_w 174, 3) := by decide +kernel
theorem d25_77 : decode oB25 77 = .ok (.lload 6, 2) := by decide +kernel
theorem d25_79 : decode oB25 79 = .ok (.lmul, 1) := by decide +kernel
theorem d25_80 : decode oB25 80 = .ok (.lload 6, 2) := by decide +kernel
theorem d25_82 : decode oB25 82 = .ok (.ldc2_w 176, 3) := by decide +kernel
theorem d25_85 : decode oB25 85 = .ok (.ldiv, 1) := by decide +kernel
theorem d25_86 : decode oB25 86 = .ok (.ladd, 1) := by decide +kernel
theorem d25_87 : decode oB25 87 = .ok (.lload 6, 2) := by decide +kernel
theorem d25_89 : decode oB25 89 = .ok (.ldc2_w 178, 3) := by decide +kernel
theorem d25_92 : decode oB25 92 = .ok (.ldiv, 1) := by decide +kernel
theorem d25_93 : decode oB25 93 = .ok (.lsub, 1) := by decide +kernel
theorem d25_94 : decode oB25 94 = .ok (.lload 6, 2) := by decide +kernel
theorem d25_96 : decode oB25 96 = .ok (.ldc2_w 170, 3) := by decide +kernel
theorem d25_99 : decode oB25 99 = .ok (.ldiv, 1) := by decide +kernel
theorem d25_100 : decode oB25 100 = .ok (.ladd, 1) := by decide +kernel
theorem d25_101 : decode oB25 101 = .ok (.lsub, 1) := by decide +kernel
theorem d25_102 : decode oB25 102 = .ok (.lstore 8, 2) := by decide +kernel
theorem d25_104 : decode oB25 104 = .ok (.lload 8, 2) := by decide +kernel
theorem d25_106 : decode oB25 106 = .ok (.lconst 0, 1) := by decide +kernel
theorem d25_107 : decode oB25 107 = .ok (.lcmp, 1) := by decide +kernel
theorem d25_108 : decode oB25 108 = .ok (.ifCond .ge 40, 3) := by decide +kernel
theorem d25_111 : decode oB25 111 = .ok (.lload 6, 2) := by decide +kernel
theorem d25_113 : decode oB25 113 = .ok (.lconst 1, 1) := by decide +kernel
theorem d25_114 : decode oB25 114 = .ok (.lsub, 1) := by decide +kernel
theorem d25_115 : decode oB25 115 = .ok (.lstore 6, 2) := by decide +kernel
theorem d25_117 : decode oB25 117 = .ok (.lload_n 2, 1) := by decide +kernel
theorem d25_118 : decode oB25 118 = .ok (.ldc2_w 174, 3) := by decide +kernel
theorem d25_121 : decode oB25 121 = .ok (.lload 6, 2) := by decide +kernel
theorem d25_123 : decode oB25 123 = .ok (.lmul, 1) := by decide +kernel
theorem d25_124 : decode oB25 124 = .ok (.lload 6, 2) := by decide +kernel
theorem d25_126 : decode oB25 126 = .ok (.ldc2_w 176, 3) := by decide +kernel
theorem d25_129 : decode oB25 129 = .ok (.ldiv, 1) := by decide +kernel
theorem d25_130 : decode oB25 130 = .ok (.ladd, 1) := by decide +kernel
theorem d25_131 : decode oB25 131 = .ok (.lload 6, 2) := by decide +kernel
theorem d25_133 : decode oB25 133 = .ok (.ldc2_w 178, 3) := by decide +kernel
theorem d25_136 : decode oB25 136 = .ok (.ldiv, 1) := by decide +kernel
theorem d25_137 : decode oB25 137 = .ok (.lsub, 1) := by decide +kernel
theorem d25_138 : decode oB25 138 = .ok (.lload 6, 2) := by decide +kernel
theorem d25_140 : decode oB25 140 = .ok (.ldc2_w 170, 3) := by decide +kernel
theorem d25_143 : decode oB25 143 = .ok (.ldiv, 1) := by decide +kernel
theorem d25_144 : decode oB25 144 = .ok (.ladd, 1) := by decide +kernel
theorem d25_145 : decode oB25 145 = .ok (.lsub, 1) := by decide +kernel
theorem d25_146 : decode oB25 146 = .ok (.lstore 8, 2) := by decide +kernel
theorem d25_148 : decode oB25 148 = .ok (.lload 6, 2) := by decide +kernel
theorem d25_150 : decode oB25 150 = .ok (.lload 4, 2) := by decide +kernel
theorem d25_152 : decode oB25 152 = .ok (.ladd, 1) := by decide +kernel
theorem d25_153 : decode oB25 153 = .ok (.lstore 6, 2) := by decide +kernel
theorem d25_155 : decode oB25 155 = .ok (.lload 8, 2) := by decide +kernel
theorem d25_157 : decode oB25 157 = .ok (.l2i, 1) := by decide +kernel
theorem d25_158 : decode oB25 158 = .ok (.istore 10, 2) := by decide +kernel
theorem d25_160 : decode oB25 160 = .ok (.iload 10, 2) := by decide +kernel
theorem d25_162 : decode oB25 162 = .ok (.iconst 5, 1) := by decide +kernel
theorem d25_163 : decode oB25 163 = .ok (.imul, 1) := by decide +kernel
theorem d25_164 : decode oB25 164 = .ok (.iconst 2, 1) := by decide +kernel
theorem d25_165 : decode oB25 165 = .ok (.iadd, 1) := by decide +kernel
theorem d25_166 : decode oB25 166 = .ok (.sipush 153, 3) := by decide +kernel
theorem d25_169 : decode oB25 169 = .ok (.idiv, 1) := by decide +kernel
theorem d25_170 : decode oB25 170 = .ok (.istore 11, 2) := by decide +kernel
theorem d25_172 : decode oB25 172 = .ok (.iload 11, 2) := by decide +kernel
theorem d25_174 : decode oB25 174 = .ok (.iconst 3, 1) := by decide +kernel
theorem d25_175 : decode oB25 175 = .ok (.iadd, 1) := by decide +kernel
theorem d25_176 : decode oB25 176 = .ok (.istore 12, 2) := by decide +kernel
theorem d25_178 : decode oB25 178 = .ok (.iload 12, 2) := by decide +kernel
theorem d25_180 : decode oB25 180 = .ok (.bipush 12, 2) := by decide +kernel
theorem d25_182 : decode oB25 182 = .ok (.if_icmp .le 6, 3) := by decide +kernel
theorem d25_185 : decode oB25 185 = .ok (.iinc 12 (-12), 3) := by decide +kernel
theorem d25_188 : decode oB25 188 = .ok (.iload 10, 2) := by decide +kernel
theorem d25_190 : decode oB25 190 = .ok (.iload 11, 2) := by decide +kernel
theorem d25_192 : decode oB25 192 = .ok (.sipush 306, 3) := by decide +kernel
theorem d25_195 : decode oB25 195 = .ok (.imul, 1) := by decide +kernel
theorem d25_196 : decode oB25 196 = .ok (.iconst 5, 1) := by decide +kernel
theorem d25_197 : decode oB25 197 = .ok (.iadd, 1) := by decide +kernel
theorem d25_198 : decode oB25 198 = .ok (.bipush 10, 2) := by decide +kernel
theorem d25_200 : decode oB25 200 = .ok (.idiv, 1) := by decide +kernel
theorem d25_201 : decode oB25 201 = .ok (.isub, 1) := by decide +kernel
theorem d25_202 : decode oB25 202 = .ok (.iconst 1, 1) := by decide +kernel
theorem d25_203 : decode oB25 203 = .ok (.iadd, 1) := by decide +kernel
theorem d25_204 : decode oB25 204 = .ok (.istore 13, 2) := by decide +kernel
theorem d25_206 : decode oB25 206 = .ok (.iload 10, 2) := by decide +kernel
theorem d25_208 : decode oB25 208 = .ok (.sipush 306, 3) := by decide +kernel
theorem d25_211 : decode oB25 211 = .ok (.if_icmp .lt 9, 3) := by decide +kernel
theorem d25_214 : decode oB25 214 = .ok (.lload 6, 2) := by decide +kernel
theorem d25_216 : decode oB25 216 = .ok (.lconst 1, 1) := by decide +kernel
theorem d25_217 : decode oB25 217 = .ok (.ladd, 1) := by decide +kernel
theorem d25_218 : decode oB25 218 = .ok (.lstore 6, 2) := by decide +kernel
theorem d25_220 : decode oB25 220 = .ok (.new 1, 3) := by decide +kernel
theorem d25_223 : decode oB25 223 = .ok (.dup, 1) := by decide +kernel
theorem d25_224 : decode oB25 224 = .ok (.lload 6, 2) := by decide +kernel
theorem d25_226 : decode oB25 226 = .ok (.l2i, 1) := by decide +kernel
theorem d25_227 : decode oB25 227 = .ok (.iload 12, 2) := by decide +kernel
theorem d25_229 : decode oB25 229 = .ok (.iload 13, 2) := by decide +kernel
theorem d25_231 : decode oB25 231 = .ok (.invokespecial 121, 3) := by decide +kernel
theorem d25_234 : decode oB25 234 = .ok (.areturn, 1) := by decide +kernel
theorem pn_25 : plainName own_cD = true := by first | (simp [plainName, overriddenIn]; done) | decide +kernel
theorem pd_25_16 : parseMethodDescriptor "(J)J" = some ⟨[.long], some .long⟩ := by decide +kernel
theorem pd_25_21 : parseMethodDescriptor "(III)V" = some ⟨[.int, .int, .int], none⟩ := by decide +kernel
theorem ef_25 (m : MethodId) (x0 : Int64) : entryFrame m #[(.long x0)] 14 = mkF m 0 #[own_J x0, .second, .unset, .unset, .unset, .unset, .unset, .unset, .unset, .unset, .unset, .unset, .unset, .unset] [] := by first | (simp [entryFrame, mkF, argsToLocals, Value.category]; done) | rfl
def Q25 (Z : State) (p1 : Int64) (xx : Nat → Nat) (h0 : Heap) (n0 : Nat) (v : Option Value) (h : Heap) (L : List Loc) : Prop := ∃ (r : Addr) (yv : Int32) (mv : Int32) (dv : Int32), v = some (.ref r) ∧ (True) ∧ h0.size ≤ r ∧ Fr n0 L ∧ Keep h0 h [] ∧ (Exa Z h r own_cD) ∧ (Fld Z h r own_cD "year" "I" (.int yv)) ∧ (Fld Z h r own_cD "month" "S" (.int mv)) ∧ (Fld Z h r own_cD "day" "S" (.int dv))
theorem rm25 (l : Launch) (Z : State) (a0 : Array Value) (hw : ∀ d ∈ tables_1, d.before a0 Z = true) (ws_ : List Jvm.Cond) (p1 : Int64) (xx : Nat → Nat) (h0 : Heap) (n0 : Nat) (Z0 : n0 ≤ h0.size) (P0 : Old Z n0 h0) (HP : own_P Z xx) (hlo : ¬ p1 < (-365243219162 : Int64)) (hhi : ¬ (365241780471 : Int64) < p1) :
    own_Met l own_mt25 oB25 14 (some (.object own_cD)) ws_ ({ frames := 4, cells := 1, slots := 3, locals := 57 } : Room) #[(.long p1)] Z h0 (Q25 Z p1 xx h0 n0) := by
  refine own_met n0 (plainFor_of_name pn_25) (fun m => ef_25 m p1) ?_
  intro p e s m below meth c s₁ Bd hZ hx hby hml hown' hnm X0 e0 N0 K fin
  have hown : s.vm.findClass own_cD = some m.cls := hown'
  show own_Go p e below K (s₁.setTop (mkF m 0 #[own_J p1, .second, own_U, own_U, own_U, own_U, own_U, own_U, own_U, own_U, own_U, own_U, own_U, own_U] []))
  obtain ⟨T1, X1, e1, st1⟩ := getS2 X0 hx hZ hown (host := "") (Or.inl (own_w hw 221 rfl)) Via.refl e0 (HP.2.2.2.2.2.2.2.2.2.2.2.2.2.2.2.2.2.2.1.ext P0.2) (g := (mkF m 0 #[own_J p1, .second, own_U, own_U, own_U, own_U, own_U, own_U, own_U, own_U, own_U, own_U, own_U, own_U] [])) rfl (hb hby d25_0)
  refine own_st st1 ?_
  try clear st1
  have q2 : Exa Z h0 (xx 9) own_cC := HP.2.2.2.2.2.2.2.2.2.2.2.2.2.2.2.2.2.2.2.1.ext P0.2
  have q3 : Fld Z h0 (xx 9) own_cC "range" "Ljava/time/temporal/ValueRange;" (.ref (xx 10)) := HP.2.2.2.2.2.2.2.2.2.2.2.2.2.2.2.2.2.2.2.2.1.ext P0.2
  have q4 : Exa Z h0 (xx 10) own_cV := HP.2.2.2.2.2.2.2.2.2.2.2.2.2.2.2.2.2.2.2.2.2.1.ext P0.2
  have q5 : Fld Z h0 (xx 10) own_cV "minSmallest" "J" (.long (-365243219162)) := HP.2.2.2.2.2.2.2.2.2.2.2.2.2.2.2.2.2.2.2.2.2.2.1.ext P0.2
  have q6 : Fld Z h0 (xx 10) own_cV "maxLargest" "J" (.long 365241780471) := HP.2.2.2.2.2.2.2.2.2.2.2.2.2.2.2.2.2.2.2.2.2.2.2.1.ext P0.2
  refine own_xlloadN X1 hx hby d25_3 rfl ?_
  obtain ⟨cq7, kq7, qv7a, qv7b, qv7c⟩ := isOf hZ e1 q2
  obtain ⟨_, T7, L7, Lc7, X7, hQ7, Nf7, st7⟩ := own_back (cells := 0) (slots := 0) (rc := 0) (rs := 0) N0 (X1.virtualBack hx (y := own_mt26) (z := own_mt26) hown (mvT hZ (own_w hw 223 rfl)) (mvT hZ (own_w hw 224 rfl)) (notFace_of_selects (args := #[]) (mvT hZ (own_w hw 226 rfl))) (mvT hZ (own_w hw 226 rfl)) (mvT hZ (own_w hw 225 rfl)) (by decide) (backOf (W := 0) (rm26 l Z a0 hw [] (xx 9) p1 ((xx 10)) h0 n0 Z0 q2 q3 q4 q5 q6 (by assumption) (by assumption)) hZ (own_w hw 227 rfl) (own_w hw 222 rfl) (by decide) (by decide)) qv7a qv7c (g := (mkF m 4 #[own_J p1, .second, own_U, own_U, own_U, own_U, own_U, own_U, own_U, own_U, own_U, own_U, own_U, own_U] [(.long p1), (.ref (xx 9))])) rfl (by rw [hml]; rfl) (Steps.refl _) (argsL := [(.long p1)]) (rest := []) (lenOf pd_25_16 rfl) rfl (by show 2 * 0 + _ ≤ _; exact Nat.le_of_eq rfl) (hb hby d25_4) (fun _ _ => ⟨rfl, e1, (by decide : 0 + 0 ≤ _), (by decide : 0 + 0 ≤ _)⟩))
  obtain ⟨rfl, N7q, e7⟩ := hQ7
  have N7 := Nf7 N7q
  refine own_tr st7 ?_
  try clear X1 e1 st7 N7q
  refine own_st (fun _ => own_pop2L X7.here hx rfl (hb hby d25_7) rfl) ?_
  refine own_xlloadN X7 hx hby d25_8 rfl ?_
  refine own_st (X7.ldc2Long hx hown (mvT hZ (own_w hw 197 rfl)) (g := (mkF m 9 #[own_J p1, .second, own_U, own_U, own_U, own_U, own_U, own_U, own_U, own_U, own_U, own_U, own_U, own_U] [(.long p1)])) rfl (hb hby d25_9)) ?_
  refine own_xladd X7 hx hby d25_12 ?_
  refine own_xlstoreN X7 hx hby d25_13 (l' := #[own_J p1, .second, own_J (p1 + (719528 : Int64)), .second, own_U, own_U, own_U, own_U, own_U, own_U, own_U, own_U, own_U, own_U]) rfl ?_
  refine own_xlloadN X7 hx hby d25_14 rfl ?_
  refine own_st (X7.ldc2Long hx hown (mvT hZ (own_w hw 260 rfl)) (g := (mkF m 15 #[own_J p1, .second, own_J (p1 + (719528 : Int64)), .second, own_U, own_U, own_U, own_U, own_U, own_U, own_U, own_U, own_U, own_U] [(.long (p1 + (719528 : Int64)))])) rfl (hb hby d25_15)) ?_
  refine own_xlsub X7 hx hby d25_18 ?_
  show own_Go p e below K (T7.setTop (mkF m 19 #[own_J p1, .second, own_J (p1 + (719528 : Int64)), .second, own_U, own_U, own_U, own_U, own_U, own_U, own_U, own_U, own_U, own_U] [(.long ((p1 + (719528 : Int64)) - (60 : Int64)))]))
  generalize hzd : ((p1 + (719528 : Int64)) - (60 : Int64)) = zd
  show own_Go p e below K (T7.setTop (mkF m 19 #[own_J p1, .second, own_J (p1 + (719528 : Int64)), .second, own_U, own_U, own_U, own_U, own_U, own_U, own_U, own_U, own_U, own_U] [(.long zd)]))
  refine own_xlstoreN X7 hx hby d25_19 (l' := #[own_J p1, .second, own_J zd, .second, own_U, own_U, own_U, own_U, own_U, own_U, own_U, own_U, own_U, own_U]) rfl ?_
  refine own_st (fun _ => XS.lconst X7.here hx rfl (hb hby d25_20)) ?_
  refine own_xlstore X7 hx hby d25_21 (l' := #[own_J p1, .second, own_J zd, .second, own_J 0, .second, own_U, own_U, own_U, own_U, own_U, own_U, own_U, own_U]) rfl ?_
  refine own_xlloadN X7 hx hby d25_23 rfl ?_
  refine own_st (fun _ => XS.lconst X7.here hx rfl (hb hby d25_24)) ?_
  refine own_xlcmp X7 hx hby d25_25 ?_
  by_cases hc26 : zd < (0 : Int64)
  · refine own_xifNo X7 hx hby d25_26 ((if0 _ _).trans (tlt ((lw_lt zd (0 : Int64)).mpr hc26)).2.1) ?_
    refine own_xlloadN X7 hx hby d25_29 rfl ?_
    refine own_st (fun _ => XS.lconst X7.here hx rfl (hb hby d25_30)) ?_
    refine own_xladd X7 hx hby d25_31 ?_
    refine own_st (X7.ldc2Long hx hown (mvT hZ (own_w hw 262 rfl)) (g := (mkF m 32 #[own_J p1, .second, own_J zd, .second, own_J 0, .second, own_U, own_U, own_U, own_U, own_U, own_U, own_U, own_U] [(.long (zd + (1 : Int64)))])) rfl (hb hby d25_32)) ?_
    refine own_xldiv X7 hx hby d25_35 (by decide) ?_
    refine own_st (fun _ => XS.lconst X7.here hx rfl (hb hby d25_36)) ?_
    refine own_xlsub X7 hx hby d25_37 ?_
    refine own_xlstore X7 hx hby d25_38 (l' := #[own_J p1, .second, own_J zd, .second, own_J 0, .second, own_J (((zd + (1 : Int64)) / (146097 : Int64)) - (1 : Int64)), .second, own_U, own_U, own_U, own_U, own_U, own_U]) rfl ?_
    refine own_xlload X7 hx hby d25_40 rfl ?_
    refine own_st (X7.ldc2Long hx hown (mvT hZ (own_w hw 204 rfl)) (g := (mkF m 42 #[own_J p1, .second, own_J zd, .second, own_J 0, .second, own_J (((zd + (1 : Int64)) / (146097 : Int64)) - (1 : Int64)), .second, own_U, own_U, own_U, own_U, own_U, own_U] [(.long (((zd + (1 : Int64)) / (146097 : Int64)) - (1 : Int64)))])) rfl (hb hby d25_42)) ?_
    refine own_xlmul X7 hx hby d25_45 ?_
    refine own_xlstore X7 hx hby d25_46 (l' := #[own_J p1, .second, own_J zd, .second, own_J ((((zd + (1 : Int64)) / (146097 : Int64)) - (1 : Int64)) * (400 : Int64)), .second, own_J (((zd + (1 : Int64)) / (146097 : Int64)) - (1 : Int64)), .second, own_U, own_U, own_U, own_U, own_U, own_U]) rfl ?_
    refine own_xlloadN X7 hx hby d25_48 rfl ?_
    refine own_xlload X7 hx hby d25_49 rfl ?_
    refine own_xlneg X7 hx hby d25_51 ?_
    refine own_st (X7.ldc2Long hx hown (mvT hZ (own_w hw 262 rfl)) (g := (mkF m 52 #[own_J p1, .second, own_J zd, .second, own_J ((((zd + (1 : Int64)) / (146097 : Int64)) - (1 : Int64)) * (400 : Int64)), .second, own_J (((zd + (1 : Int64)) / (146097 : Int64)) - (1 : Int64)), .second, own_U, own_U, own_U, own_U, own_U, own_U] [(.long (-(((zd + (1 : Int64)) / (146097 : Int64)) - (1 : Int64)))), (.long zd)])) rfl (hb hby d25_52)) ?_
    refine own_xlmul X7 hx hby d25_55 ?_
    refine own_xladd X7 hx hby d25_56 ?_
    refine own_xlstoreN X7 hx hby d25_57 (l' := #[own_J p1, .second, own_J (zd + ((-(((zd + (1 : Int64)) / (146097 : Int64)) - (1 : Int64))) * (146097 : Int64))), .second, own_J ((((zd + (1 : Int64)) / (146097 : Int64)) - (1 : Int64)) * (400 : Int64)), .second, own_J (((zd + (1 : Int64)) / (146097 : Int64)) - (1 : Int64)), .second, own_U, own_U, own_U, own_U, own_U, own_U]) rfl ?_
    refine own_st (X7.ldc2Long hx hown (mvT hZ (own_w hw 204 rfl)) (g := (mkF m 58 #[own_J p1, .second, own_J (zd + ((-(((zd + (1 : Int64)) / (146097 : Int64)) - (1 : Int64))) * (146097 : Int64))), .second, own_J ((((zd + (1 : Int64)) / (146097 : Int64)) - (1 : Int64)) * (400 : Int64)), .second, own_J (((zd + (1 : Int64)) / (146097 : Int64)) - (1 : Int64)), .second, own_U, own_U, own_U, own_U, own_U, own_U] [])) rfl (hb hby d25_58)) ?_
    refine own_xlloadN X7 hx hby d25_61 rfl ?_
    refine own_xlmul X7 hx hby d25_62 ?_
    refine own_st (X7.ldc2Long hx hown (mvT hZ (own_w hw 261 rfl)) (g := (mkF m 63 #[own_J p1, .second, own_J (zd + ((-(((zd + (1 : Int64)) / (146097 : Int64)) - (1 : Int64))) * (146097 : Int64))), .second, own_J ((((zd + (1 : Int64)) / (146097 : Int64)) - (1 : Int64)) * (400 : Int64)), .second, own_J (((zd + (1 : Int64)) / (146097 : Int64)) - (1 : Int64)), .second, own_U, own_U, own_U, own_U, own_U, own_U] [(.long ((400 : Int64) * (zd + ((-(((zd + (1 : Int64)) / (146097 : Int64)) - (1 : Int64))) * (146097 : Int64)))))])) rfl (hb hby d25_63)) ?_
    show own_Go p e below K (T7.setTop (mkF m 66 #[own_J p1, .second, own_J (zd + ((-(((zd + (1 : Int64)) / (146097 : Int64)) - (1 : Int64))) * (146097 : Int64))), .second, own_J ((((zd + (1 : Int64)) / (146097 : Int64)) - (1 : Int64)) * (400 : Int64)), .second, own_J (((zd + (1 : Int64)) / (146097 : Int64)) - (1 : Int64)), .second, own_U, own_U, own_U, own_U, own_U, own_U] [(.long 591), (.long ((400 : Int64) * (zd + ((-(((zd + (1 : Int64)) / (146097 : Int64)) - (1 : Int64))) * (146097 : Int64)))))]))
    refine own_xladd X7 hx hby d25_66 ?_
    refine own_st (X7.ldc2Long hx hown (mvT hZ (own_w hw 262 rfl)) (g := (mkF m 67 #[own_J p1, .second, own_J (zd + ((-(((zd + (1 : Int64)) / (146097 : Int64)) - (1 : Int64))) * (146097 : Int64))), .second, own_J ((((zd + (1 : Int64)) / (146097 : Int64)) - (1 : Int64)) * (400 : Int64)), .second, own_J (((zd + (1 : Int64)) / (146097 : Int64)) - (1 : Int64)), .second, own_U, own_U, own_U, own_U, own_U, own_U] [(.long (((400 : Int64) * (zd + ((-(((zd + (1 : Int64)) / (146097 : Int64)) - (1 : Int64))) * (146097 : Int64)))) + (591 : Int64)))])) rfl (hb hby d25_67)) ?_
    refine own_xldiv X7 hx hby d25_70 (by decide) ?_
    show own_Go p e below K (T7.setTop (mkF m 71 #[own_J p1, .second, own_J (zd + ((-(((zd + (1 : Int64)) / (146097 : Int64)) - (1 : Int64))) * (146097 : Int64))), .second, own_J ((((zd + (1 : Int64)) / (146097 : Int64)) - (1 : Int64)) * (400 : Int64)), .second, own_J (((zd + (1 : Int64)) / (146097 : Int64)) - (1 : Int64)), .second, own_U, own_U, own_U, own_U, own_U, own_U] [(.long ((((400 : Int64) * (zd + ((-(((zd + (1 : Int64)) / (146097 : Int64)) - (1 : Int64))) * (146097 : Int64)))) + (591 : Int64)) / (146097 : Int64)))]))
    generalize hye : ((((400 : Int64) * (zd + ((-(((zd + (1 : Int64)) / (146097 : Int64)) - (1 : Int64))) * (146097 : Int64)))) + (591 : Int64)) / (146097 : Int64)) = ye
    show own_Go p e below K (T7.setTop (mkF m 71 #[own_J p1, .second, own_J (zd + ((-(((zd + (1 : Int64)) / (146097 : Int64)) - (1 : Int64))) * (146097 : Int64))), .second, own_J ((((zd + (1 : Int64)) / (146097 : Int64)) - (1 : Int64)) * (400 : Int64)), .second, own_J (((zd + (1 : Int64)) / (146097 : Int64)) - (1 : Int64)), .second, own_U, own_U, own_U, own_U, own_U, own_U] [(.long ye)]))
    refine own_xlstore X7 hx hby d25_71 (l' := #[own_J p1, .second, own_J (zd + ((-(((zd + (1 : Int64)) / (146097 : Int64)) - (1 : Int64))) * (146097 : Int64))), .second, own_J ((((zd + (1 : Int64)) / (146097 : Int64)) - (1 : Int64)) * (400 : Int64)), .second, own_J ye, .second, own_U, own_U, own_U, own_U, own_U, own_U]) rfl ?_
    refine own_xlloadN X7 hx hby d25_73 rfl ?_
    refine own_st (X7.ldc2Long hx hown (mvT hZ (own_w hw 187 rfl)) (g := (mkF m 74 #[own_J p1, .second, own_J (zd + ((-(((zd + (1 : Int64)) / (146097 : Int64)) - (1 : Int64))) * (146097 : Int64))), .second, own_J ((((zd + (1 : Int64)) / (146097 : Int64)) - (1 : Int64)) * (400 : Int64)), .second, own_J ye, .second, own_U, own_U, own_U, own_U, own_U, own_U] [(.long (zd + ((-(((zd + (1 : Int64)) / (146097 : Int64)) - (1 : Int64))) * (146097 : Int64))))])) rfl (hb hby d25_74)) ?_
    refine own_xlload X7 hx hby d25_77 rfl ?_
    refine own_xlmul X7 hx hby d25_79 ?_
    refine own_xlload X7 hx hby d25_80 rfl ?_
    refine own_st (X7.ldc2Long hx hown (mvT hZ (own_w hw 200 rfl)) (g := (mkF m 82 #[own_J p1, .second, own_J (zd + ((-(((zd + (1 : Int64)) / (146097 : Int64)) - (1 : Int64))) * (146097 : Int64))), .second, own_J ((((zd + (1 : Int64)) / (146097 : Int64)) - (1 : Int64)) * (400 : Int64)), .second, own_J ye, .second, own_U, own_U, own_U, own_U, own_U, own_U] [(.long ye), (.long ((365 : Int64) * ye)), (.long (zd + ((-(((zd + (1 : Int64)) / (146097 : Int64)) - (1 : Int64))) * (146097 : Int64))))])) rfl (hb hby d25_82)) ?_
    refine own_xldiv X7 hx hby d25_85 (by decide) ?_
    refine own_xladd X7 hx hby d25_86 ?_
    refine own_xlload X7 hx hby d25_87 rfl ?_
    refine own_st (X7.ldc2Long hx hown (mvT hZ (own_w hw 202 rfl)) (g := (mkF m 89 #[own_J p1, .second, own_J (zd + ((-(((zd + (1 : Int64)) / (146097 : Int64)) - (1 : Int64))) * (146097 : Int64))), .second, own_J ((((zd + (1 : Int64)) / (146097 : Int64)) - (1 : Int64)) * (400 : Int64)), .second, own_J ye, .second, own_U, own_U, own_U, own_U, own_U, own_U] [(.long ye), (.long (((365 : Int64) * ye) + (ye / (4 : Int64)))), (.long (zd + ((-(((zd + (1 : Int64)) / (146097 : Int64)) - (1 : Int64))) * (146097 : Int64))))])) rfl (hb hby d25_89)) ?_
    refine own_xldiv X7 hx hby d25_92 (by decide) ?_
    refine own_xlsub X7 hx hby d25_93 ?_
    refine own_xlload X7 hx hby d25_94 rfl ?_
    refine own_st (X7.ldc2Long hx hown (mvT hZ (own_w hw 204 rfl)) (g := (mkF m 96 #[own_J p1, .second, own_J (zd + ((-(((zd + (1 : Int64)) / (146097 : Int64)) - (1 : Int64))) * (146097 : Int64))), .second, own_J ((((zd + (1 : Int64)) / (146097 : Int64)) - (1 : Int64)) * (400 : Int64)), .second, own_J ye, .second, own_U, own_U, own_U, own_U, own_U, own_U] [(.long ye), (.long ((((365 : Int64) * ye) + (ye / (4 : Int64))) - (ye / (100 : Int64)))), (.long (zd + ((-(((zd + (1 : Int64)) / (146097 : Int64)) - (1 : Int64))) * (146097 : Int64))))])) rfl (hb hby d25_96)) ?_
    refine own_xldiv X7 hx hby d25_99 (by decide) ?_
    refine own_xladd X7 hx hby d25_100 ?_
    refine own_xlsub X7 hx hby d25_101 ?_
    show own_Go p e below K (T7.setTop (mkF m 102 #[own_J p1, .second, own_J (zd + ((-(((zd + (1 : Int64)) / (146097 : Int64)) - (1 : Int64))) * (146097 : Int64))), .second, own_J ((((zd + (1 : Int64)) / (146097 : Int64)) - (1 : Int64)) * (400 : Int64)), .second, own_J ye, .second, own_U, own_U, own_U, own_U, own_U, own_U] [(.long ((zd + ((-(((zd + (1 : Int64)) / (146097 : Int64)) - (1 : Int64))) * (146097 : Int64))) - (((((365 : Int64) * ye) + (ye / (4 : Int64))) - (ye / (100 : Int64))) + (ye / (400 : Int64)))))]))
    generalize hde : ((zd + ((-(((zd + (1 : Int64)) / (146097 : Int64)) - (1 : Int64))) * (146097 : Int64))) - (((((365 : Int64) * ye) + (ye / (4 : Int64))) - (ye / (100 : Int64))) + (ye / (400 : Int64)))) = de
    show own_Go p e below K (T7.setTop (mkF m 102 #[own_J p1, .second, own_J (zd + ((-(((zd + (1 : Int64)) / (146097 : Int64)) - (1 : Int64))) * (146097 : Int64))), .second, own_J ((((zd + (1 : Int64)) / (146097 : Int64)) - (1 : Int64)) * (400 : Int64)), .second, own_J ye, .second, own_U, own_U, own_U, own_U, own_U, own_U] [(.long de)]))
    refine own_xlstore X7 hx hby d25_102 (l' := #[own_J p1, .second, own_J (zd + ((-(((zd + (1 : Int64)) / (146097 : Int64)) - (1 : Int64))) * (146097 : Int64))), .second, own_J ((((zd + (1 : Int64)) / (146097 : Int64)) - (1 : Int64)) * (400 : Int64)), .second, own_J ye, .second, own_J de, .second, own_U, own_U, own_U, own_U]) rfl ?_
    have J148 : ∀ (T' : State) (locs' : List Loc) (X' : Stand p l e ({ frames := 4, cells := 1, slots := 3, locals := 57 } : Room) s m #[(.long p1)] below meth c T' locs' 0 0) (e' : T'.heap = h0) (N' : Fr n0 locs') (ja0 : Int64) (ja1 : Int64), (True) → own_Go p e below K (T'.setTop (mkF m 148 #[own_J p1, .second, own_J (zd + ((-(((zd + (1 : Int64)) / (146097 : Int64)) - (1 : Int64))) * (146097 : Int64))), .second, own_J ((((zd + (1 : Int64)) / (146097 : Int64)) - (1 : Int64)) * (400 : Int64)), .second, own_J ja0, .second, own_J ja1, .second, own_U, own_U, own_U, own_U] [])) := by
      intro T8 locs8 X8 e8 N8 ja0 ja1 hj148
      refine own_xlload X8 hx hby d25_148 rfl ?_
      refine own_xlload X8 hx hby d25_150 rfl ?_
      refine own_xladd X8 hx hby d25_152 ?_
      show own_Go p e below K (T8.setTop (mkF m 153 #[own_J p1, .second, own_J (zd + ((-(((zd + (1 : Int64)) / (146097 : Int64)) - (1 : Int64))) * (146097 : Int64))), .second, own_J ((((zd + (1 : Int64)) / (146097 : Int64)) - (1 : Int64)) * (400 : Int64)), .second, own_J ja0, .second, own_J ja1, .second, own_U, own_U, own_U, own_U] [(.long (ja0 + ((((zd + (1 : Int64)) / (146097 : Int64)) - (1 : Int64)) * (400 : Int64))))]))
      generalize hyf : (ja0 + ((((zd + (1 : Int64)) / (146097 : Int64)) - (1 : Int64)) * (400 : Int64))) = yf
      show own_Go p e below K (T8.setTop (mkF m 153 #[own_J p1, .second, own_J (zd + ((-(((zd + (1 : Int64)) / (146097 : Int64)) - (1 : Int64))) * (146097 : Int64))), .second, own_J ((((zd + (1 : Int64)) / (146097 : Int64)) - (1 : Int64)) * (400 : Int64)), .second, own_J ja0, .second, own_J ja1, .second, own_U, own_U, own_U, own_U] [(.long yf)]))
      refine own_xlstore X8 hx hby d25_153 (l' := #[own_J p1, .second, own_J (zd + ((-(((zd + (1 : Int64)) / (146097 : Int64)) - (1 : Int64))) * (146097 : Int64))), .second, own_J ((((zd + (1 : Int64)) / (146097 : Int64)) - (1 : Int64)) * (400 : Int64)), .second, own_J yf, .second, own_J ja1, .second, own_U, own_U, own_U, own_U]) rfl ?_
      refine own_xlload X8 hx hby d25_155 rfl ?_
      refine own_xl2i X8 hx hby d25_157 ?_
      show own_Go p e below K (T8.setTop (mkF m 158 #[own_J p1, .second, own_J (zd + ((-(((zd + (1 : Int64)) / (146097 : Int64)) - (1 : Int64))) * (146097 : Int64))), .second, own_J ((((zd + (1 : Int64)) / (146097 : Int64)) - (1 : Int64)) * (400 : Int64)), .second, own_J yf, .second, own_J ja1, .second, own_U, own_U, own_U, own_U] [(.int (ja1.toInt32))]))
      generalize hmd : (ja1.toInt32) = md
      show own_Go p e below K (T8.setTop (mkF m 158 #[own_J p1, .second, own_J (zd + ((-(((zd + (1 : Int64)) / (146097 : Int64)) - (1 : Int64))) * (146097 : Int64))), .second, own_J ((((zd + (1 : Int64)) / (146097 : Int64)) - (1 : Int64)) * (400 : Int64)), .second, own_J yf, .second, own_J ja1, .second, own_U, own_U, own_U, own_U] [(.int md)]))
      refine own_xistore X8 hx hby d25_158 (l' := #[own_J p1, .second, own_J (zd + ((-(((zd + (1 : Int64)) / (146097 : Int64)) - (1 : Int64))) * (146097 : Int64))), .second, own_J ((((zd + (1 : Int64)) / (146097 : Int64)) - (1 : Int64)) * (400 : Int64)), .second, own_J yf, .second, own_J ja1, .second, own_I md, own_U, own_U, own_U]) rfl ?_
      refine own_xiload X8 hx hby d25_160 rfl ?_
      refine own_xiconst X8 hx hby d25_162 5 rfl ?_
      refine own_ximul X8 hx hby d25_163 ?_
      refine own_xiconst X8 hx hby d25_164 2 rfl ?_
      refine own_xiadd X8 hx hby d25_165 ?_
      refine own_xsipush X8 hx hby d25_166 153 rfl ?_
      refine own_xidiv X8 hx hby d25_169 (by decide) ?_
      show own_Go p e below K (T8.setTop (mkF m 170 #[own_J p1, .second, own_J (zd + ((-(((zd + (1 : Int64)) / (146097 : Int64)) - (1 : Int64))) * (146097 : Int64))), .second, own_J ((((zd + (1 : Int64)) / (146097 : Int64)) - (1 : Int64)) * (400 : Int64)), .second, own_J yf, .second, own_J ja1, .second, own_I md, own_U, own_U, own_U] [(.int (((md * (5 : Int32)) + (2 : Int32)) / (153 : Int32)))]))
      generalize hmz : (((md * (5 : Int32)) + (2 : Int32)) / (153 : Int32)) = mz
      show own_Go p e below K (T8.setTop (mkF m 170 #[own_J p1, .second, own_J (zd + ((-(((zd + (1 : Int64)) / (146097 : Int64)) - (1 : Int64))) * (146097 : Int64))), .second, own_J ((((zd + (1 : Int64)) / (146097 : Int64)) - (1 : Int64)) * (400 : Int64)), .second, own_J yf, .second, own_J ja1, .second, own_I md, own_U, own_U, own_U] [(.int mz)]))
      refine own_xistore X8 hx hby d25_170 (l' := #[own_J p1, .second, own_J (zd + ((-(((zd + (1 : Int64)) / (146097 : Int64)) - (1 : Int64))) * (146097 : Int64))), .second, own_J ((((zd + (1 : Int64)) / (146097 : Int64)) - (1 : Int64)) * (400 : Int64)), .second, own_J yf, .second, own_J ja1, .second, own_I md, own_I mz, own_U, own_U]) rfl ?_
      refine own_xiload X8 hx hby d25_172 rfl ?_
      refine own_xiconst X8 hx hby d25_174 3 rfl ?_
      refine own_xiadd X8 hx hby d25_175 ?_
      show own_Go p e below K (T8.setTop (mkF m 176 #[own_J p1, .second, own_J (zd + ((-(((zd + (1 : Int64)) / (146097 : Int64)) - (1 : Int64))) * (146097 : Int64))), .second, own_J ((((zd + (1 : Int64)) / (146097 : Int64)) - (1 : Int64)) * (400 : Int64)), .second, own_J yf, .second, own_J ja1, .second, own_I md, own_I mz, own_U, own_U] [(.int (mz + (3 : Int32)))]))
      generalize hmo : (mz + (3 : Int32)) = mo
      show own_Go p e below K (T8.setTop (mkF m 176 #[own_J p1, .second, own_J (zd + ((-(((zd + (1 : Int64)) / (146097 : Int64)) - (1 : Int64))) * (146097 : Int64))), .second, own_J ((((zd + (1 : Int64)) / (146097 : Int64)) - (1 : Int64)) * (400 : Int64)), .second, own_J yf, .second, own_J ja1, .second, own_I md, own_I mz, own_U, own_U] [(.int mo)]))
      refine own_xistore X8 hx hby d25_176 (l' := #[own_J p1, .second, own_J (zd + ((-(((zd + (1 : Int64)) / (146097 : Int64)) - (1 : Int64))) * (146097 : Int64))), .second, own_J ((((zd + (1 : Int64)) / (146097 : Int64)) - (1 : Int64)) * (400 : Int64)), .second, own_J yf, .second, own_J ja1, .second, own_I md, own_I mz, own_I mo, own_U]) rfl ?_
      have J188 : ∀ (T' : State) (locs' : List Loc) (X' : Stand p l e ({ frames := 4, cells := 1, slots := 3, locals := 57 } : Room) s m #[(.long p1)] below meth c T' locs' 0 0) (e' : T'.heap = h0) (N' : Fr n0 locs') (jb0 : Int32), (True) → own_Go p e below K (T'.setTop (mkF m 188 #[own_J p1, .second, own_J (zd + ((-(((zd + (1 : Int64)) / (146097 : Int64)) - (1 : Int64))) * (146097 : Int64))), .second, own_J ((((zd + (1 : Int64)) / (146097 : Int64)) - (1 : Int64)) * (400 : Int64)), .second, own_J yf, .second, own_J ja1, .second, own_I md, own_I mz, own_I jb0, own_U] [])) := by
        intro T9 locs9 X9 e9 N9 jb0 hj188
        refine own_xiload X9 hx hby d25_188 rfl ?_
        refine own_xiload X9 hx hby d25_190 rfl ?_
        refine own_xsipush X9 hx hby d25_192 306 rfl ?_
        refine own_ximul X9 hx hby d25_195 ?_
        refine own_xiconst X9 hx hby d25_196 5 rfl ?_
        refine own_xiadd X9 hx hby d25_197 ?_
        refine own_xbipush X9 hx hby d25_198 10 rfl ?_
        refine own_xidiv X9 hx hby d25_200 (by decide) ?_
        refine own_xisub X9 hx hby d25_201 ?_
        refine own_xiconst X9 hx hby d25_202 1 rfl ?_
        refine own_xiadd X9 hx hby d25_203 ?_
        show own_Go p e below K (T9.setTop (mkF m 204 #[own_J p1, .second, own_J (zd + ((-(((zd + (1 : Int64)) / (146097 : Int64)) - (1 : Int64))) * (146097 : Int64))), .second, own_J ((((zd + (1 : Int64)) / (146097 : Int64)) - (1 : Int64)) * (400 : Int64)), .second, own_J yf, .second, own_J ja1, .second, own_I md, own_I mz, own_I jb0, own_U] [(.int ((md - (((mz * (306 : Int32)) + (5 : Int32)) / (10 : Int32))) + (1 : Int32)))]))
        generalize hdm : ((md - (((mz * (306 : Int32)) + (5 : Int32)) / (10 : Int32))) + (1 : Int32)) = dm
        show own_Go p e below K (T9.setTop (mkF m 204 #[own_J p1, .second, own_J (zd + ((-(((zd + (1 : Int64)) / (146097 : Int64)) - (1 : Int64))) * (146097 : Int64))), .second, own_J ((((zd + (1 : Int64)) / (146097 : Int64)) - (1 : Int64)) * (400 : Int64)), .second, own_J yf, .second, own_J ja1, .second, own_I md, own_I mz, own_I jb0, own_U] [(.int dm)]))
        refine own_xistore X9 hx hby d25_204 (l' := #[own_J p1, .second, own_J (zd + ((-(((zd + (1 : Int64)) / (146097 : Int64)) - (1 : Int64))) * (146097 : Int64))), .second, own_J ((((zd + (1 : Int64)) / (146097 : Int64)) - (1 : Int64)) * (400 : Int64)), .second, own_J yf, .second, own_J ja1, .second, own_I md, own_I mz, own_I jb0, own_I dm]) rfl ?_
        have J220 : ∀ (T' : State) (locs' : List Loc) (X' : Stand p l e ({ frames := 4, cells := 1, slots := 3, locals := 57 } : Room) s m #[(.long p1)] below meth c T' locs' 0 0) (e' : T'.heap = h0) (N' : Fr n0 locs') (jc0 : Int64), (True) → own_Go p e below K (T'.setTop (mkF m 220 #[own_J p1, .second, own_J (zd + ((-(((zd + (1 : Int64)) / (146097 : Int64)) - (1 : Int64))) * (146097 : Int64))), .second, own_J ((((zd + (1 : Int64)) / (146097 : Int64)) - (1 : Int64)) * (400 : Int64)), .second, own_J jc0, .second, own_J ja1, .second, own_I md, own_I mz, own_I jb0, own_I dm] [])) := by
          intro T10 locs10 X10 e10 N10 jc0 hj220
          obtain ⟨T11, h11, X11, e11, E11, A11, D11, -, st11⟩ := newO X10 hx hZ hown (own_w hw 263 rfl) (own_w hw 264 rfl) (own_w hw 177 rfl) e10 (g := (mkF m 220 #[own_J p1, .second, own_J (zd + ((-(((zd + (1 : Int64)) / (146097 : Int64)) - (1 : Int64))) * (146097 : Int64))), .second, own_J ((((zd + (1 : Int64)) / (146097 : Int64)) - (1 : Int64)) * (400 : Int64)), .second, own_J jc0, .second, own_J ja1, .second, own_I md, own_I mz, own_I jb0, own_I dm] [])) rfl (hb hby d25_220) (by decide) (by decide)
          obtain ⟨b11, g11⟩ : ∃ z, z = h0.size := ⟨_, rfl⟩
          rw [← g11] at A11 D11 st11
          have g_b11 : n0 ≤ b11 := Nat.le_trans Z0 (Nat.le_of_eq g11.symm)
          have sz_b11 : h0.size ≤ b11 := Nat.le_trans (Keep.refl h0 []).1 (Nat.le_of_eq g11.symm)
          have f12 := P0.ext E11
          have f13 : Fld Z h11 b11 own_cD "year" "I" (.int 0) := D11 (Or.inr (own_w hw 184 rfl)) (ty := .int) (by decide)
          have f14 : Fld Z h11 b11 own_cD "month" "S" (.int 0) := D11 (Or.inr (own_w hw 186 rfl)) (ty := .short) (by decide)
          have f15 : Fld Z h11 b11 own_cD "day" "S" (.int 0) := D11 (Or.inr (own_w hw 195 rfl)) (ty := .short) (by decide)
          have Z11 := Nat.le_trans Z0 E11.1
          have K11 : Keep h0 h11 [] := (Keep.refl h0 []).ext E11
          refine own_st st11 ?_
          try clear X10 e10 st11 P0
          refine own_xdup X11 hx hby d25_223 rfl ?_
          refine own_xlload X11 hx hby d25_224 rfl ?_
          refine own_xl2i X11 hx hby d25_226 ?_
          refine own_xiload X11 hx hby d25_227 rfl ?_
          refine own_xiload X11 hx hby d25_229 rfl ?_
          obtain ⟨_, T16, L16, Lc16, X16, hQ16, Nf16, st16⟩ := own_back (cells := 1) (slots := 3) (rc := 0) (rs := 0) N10 (X11.specialBack hx (y := own_mt32) rfl hown (mvT hZ (own_w hw 265 rfl)) (mvT hZ (own_w hw 266 rfl)) (mvT hZ (own_w hw 267 rfl)) (by decide) (backOf (W := 1) (rm32 l Z a0 hw [] b11 (jc0.toInt32) jb0 dm h11 n0 Z11 g_b11 A11 f13 f14 f15) hZ (own_w hw 267 rfl) (own_w hw 177 rfl) (by decide) (by decide)) (g := (mkF m 231 #[own_J p1, .second, own_J (zd + ((-(((zd + (1 : Int64)) / (146097 : Int64)) - (1 : Int64))) * (146097 : Int64))), .second, own_J ((((zd + (1 : Int64)) / (146097 : Int64)) - (1 : Int64)) * (400 : Int64)), .second, own_J jc0, .second, own_J ja1, .second, own_I md, own_I mz, own_I jb0, own_I dm] [(.int dm), (.int jb0), (.int (jc0.toInt32)), (.ref b11), (.ref b11)])) rfl (by rw [hml]; rfl) (Steps.refl _) (a := b11) (argsL := [(.int (jc0.toInt32)), (.int jb0), (.int dm)]) (rest := [(.ref b11)]) (lenOf pd_25_21 rfl) rfl (by show 2 * 0 + _ ≤ _; exact Nat.le_of_eq rfl) (hb hby d25_231) (fun _ _ => ⟨rfl, e11, (by decide : 1 + 0 ≤ _), (by decide : 3 + 0 ≤ _)⟩))
          obtain ⟨rfl, N16q, Kq16, p16_0, p16_1, p16_2, p16_3⟩ := hQ16
          have N16 := Nf16 N16q
          have f17 := f12.keep Kq16 (allS (P := fun x => n0 ≤ x) g_b11 all0)
          have Z16 := Nat.le_trans Z11 Kq16.1
          have K16 := K11.trans Kq16 (allS (P := fun x => x ∈ [] ∨ h0.size ≤ x) (Or.inr sz_b11) all0)
          refine own_tr st16 ?_
          try clear X11 e11 st16 N10 N16q f12
          obtain ⟨fs, hr, hrun, hended, hW, hsame⟩ := X16.leave (v := some (.ref b11)) (fun h => by rw [Bd.returns] at h; cases h)
          refine ⟨_, X16.areturnOut hx rfl Bd.returns rfl (hb hby d25_234) hr, fin _ _ _ hrun hended ?_ ⟨⟨_, rfl⟩, hW, hsame.mono (by decide) (by decide)⟩⟩
          show Q25 Z p1 xx h0 n0 _ T16.heap _
          exact ⟨_, (jc0.toInt32), (jb0.toInt16.toInt32).toInt16.toInt32, (dm.toInt16.toInt32).toInt16.toInt32, rfl, trivial, sz_b11, N16, K16, p16_0, p16_1, p16_2, p16_3⟩
        refine own_xiload X9 hx hby d25_206 rfl ?_
        refine own_xsipush X9 hx hby d25_208 306 rfl ?_
        by_cases hc211 : md < (306 : Int32)
        · refine own_xicmpYes X9 hx hby d25_211 (pc0 := 211) (pc' := 220) (tlt hc211).1 rfl (by decide) (by decide) ?_
          exact J220 T9 _ X9 e9 N9 (yf) trivial
        refine own_xicmpNo X9 hx hby d25_211 (flt hc211).1 ?_
        refine own_xlload X9 hx hby d25_214 rfl ?_
        refine own_st (fun _ => XS.lconst X9.here hx rfl (hb hby d25_216)) ?_
        refine own_xladd X9 hx hby d25_217 ?_
        refine own_xlstore X9 hx hby d25_218 (l' := #[own_J p1, .second, own_J (zd + ((-(((zd + (1 : Int64)) / (146097 : Int64)) - (1 : Int64))) * (146097 : Int64))), .second, own_J ((((zd + (1 : Int64)) / (146097 : Int64)) - (1 : Int64)) * (400 : Int64)), .second, own_J (yf + (1 : Int64)), .second, own_J ja1, .second, own_I md, own_I mz, own_I jb0, own_I dm]) rfl ?_
        exact J220 T9 _ X9 e9 N9 ((yf + (1 : Int64))) trivial
      refine own_xiload X8 hx hby d25_178 rfl ?_
      refine own_xbipush X8 hx hby d25_180 12 rfl ?_
      by_cases hc182 : (12 : Int32) < mo
      · refine own_xicmpNo X8 hx hby d25_182 (tlt hc182).2.2.2 ?_
        refine own_xiinc X8 hx hby d25_185 rfl (l' := #[own_J p1, .second, own_J (zd + ((-(((zd + (1 : Int64)) / (146097 : Int64)) - (1 : Int64))) * (146097 : Int64))), .second, own_J ((((zd + (1 : Int64)) / (146097 : Int64)) - (1 : Int64)) * (400 : Int64)), .second, own_J yf, .second, own_J ja1, .second, own_I md, own_I mz, own_I (mo + (-12 : Int32)), own_U]) rfl ?_
        exact J188 T8 _ X8 e8 N8 ((mo + (-12 : Int32))) trivial
      refine own_xicmpYes X8 hx hby d25_182 (pc0 := 182) (pc' := 188) (flt hc182).2.2.2 rfl (by decide) (by decide) ?_
      exact J188 T8 _ X8 e8 N8 (mo) trivial
    refine own_xlload X7 hx hby d25_104 rfl ?_
    refine own_st (fun _ => XS.lconst X7.here hx rfl (hb hby d25_106)) ?_
    refine own_xlcmp X7 hx hby d25_107 ?_
    by_cases hc108 : de < (0 : Int64)
    · refine own_xifNo X7 hx hby d25_108 ((if0 _ _).trans (tlt ((lw_lt de (0 : Int64)).mpr hc108)).2.1) ?_
      refine own_xlload X7 hx hby d25_111 rfl ?_
      refine own_st (fun _ => XS.lconst X7.here hx rfl (hb hby d25_113)) ?_
      refine own_xlsub X7 hx hby d25_114 ?_
      refine own_xlstore X7 hx hby d25_115 (l' := #[own_J p1, .second, own_J (zd + ((-(((zd + (1 : Int64)) / (146097 : Int64)) - (1 : Int64))) * (146097 : Int64))), .second, own_J ((((zd + (1 : Int64)) / (146097 : Int64)) - (1 : Int64)) * (400 : Int64)), .second, own_J (ye - (1 : Int64)), .second, own_J de, .second, own_U, own_U, own_U, own_U]) rfl ?_
      refine own_xlloadN X7 hx hby d25_117 rfl ?_
      refine own_st (X7.ldc2Long hx hown (mvT hZ (own_w hw 187 rfl)) (g := (mkF m 118 #[own_J p1, .second, own_J (zd + ((-(((zd + (1 : Int64)) / (146097 : Int64)) - (1 : Int64))) * (146097 : Int64))), .second, own_J ((((zd + (1 : Int64)) / (146097 : Int64)) - (1 : Int64)) * (400 : Int64)), .second, own_J (ye - (1 : Int64)), .second, own_J de, .second, own_U, own_U, own_U, own_U] [(.long (zd + ((-(((zd + (1 : Int64)) / (146097 : Int64)) - (1 : Int64))) * (146097 : Int64))))])) rfl (hb hby d25_118)) ?_
      refine own_xlload X7 hx hby d25_121 rfl ?_
      refine own_xlmul X7 hx hby d25_123 ?_
      refine own_xlload X7 hx hby d25_124 rfl ?_
      refine own_st (X7.ldc2Long hx hown (mvT hZ (own_w hw 200 rfl)) (g := (mkF m 126 #[own_J p1, .second, own_J (zd + ((-(((zd + (1 : Int64)) / (146097 : Int64)) - (1 : Int64))) * (146097 : Int64))), .second, own_J ((((zd + (1 : Int64)) / (146097 : Int64)) - (1 : Int64)) * (400 : Int64)), .second, own_J (ye - (1 : Int64)), .second, own_J de, .second, own_U, own_U, own_U, own_U] [(.long (ye - (1 : Int64))), (.long ((365 : Int64) * (ye - (1 : Int64)))), (.long (zd + ((-(((zd + (1 : Int64)) / (146097 : Int64)) - (1 : Int64))) * (146097 : Int64))))])) rfl (hb hby d25_126)) ?_
      refine own_xldiv X7 hx hby d25_129 (by decide) ?_
      refine own_xladd X7 hx hby d25_130 ?_
      refine own_xlload X7 hx hby d25_131 rfl ?_
      refine own_st (X7.ldc2Long hx hown (mvT hZ (own_w hw 202 rfl)) (g := (mkF m 133 #[own_J p1, .second, own_J (zd + ((-(((zd + (1 : Int64)) / (146097 : Int64)) - (1 : Int64))) * (146097 : Int64))), .second, own_J ((((zd + (1 : Int64)) / (146097 : Int64)) - (1 : Int64)) * (400 : Int64)), .second, own_J (ye - (1 : Int64)), .second, own_J de, .second, own_U, own_U, own_U, own_U] [(.long (ye - (1 : Int64))), (.long (((365 : Int64) * (ye - (1 : Int64))) + ((ye - (1 : Int64)) / (4 : Int64)))), (.long (zd + ((-(((zd + (1 : Int64)) / (146097 : Int64)) - (1 : Int64))) * (146097 : Int64))))])) rfl (hb hby d25_133)) ?_
      refine own_xldiv X7 hx hby d25_136 (by decide) ?_
      refine own_xlsub X7 hx hby d25_137 ?_
      refine own_xlload X7 hx hby d25_138 rfl ?_
      refine own_st (X7.ldc2Long hx hown (mvT hZ (own_w hw 204 rfl)) (g := (mkF m 140 #[own_J p1, .second, own_J (zd + ((-(((zd + (1 : Int64)) / (146097 : Int64)) - (1 : Int64))) * (146097 : Int64))), .second, own_J ((((zd + (1 : Int64)) / (146097 : Int64)) - (1 : Int64)) * (400 : Int64)), .second, own_J (ye - (1 : Int64)), .second, own_J de, .second, own_U, own_U, own_U, own_U] [(.long (ye - (1 : Int64))), (.long ((((365 : Int64) * (ye - (1 : Int64))) + ((ye - (1 : Int64)) / (4 : Int64))) - ((ye - (1 : Int64)) / (100 : Int64)))), (.long (zd + ((-(((zd + (1 : Int64)) / (146097 : Int64)) - (1 : Int64))) * (146097 : Int64))))])) rfl (hb hby d25_140)) ?_
      refine own_xldiv X7 hx hby d25_143 (by decide) ?_
      refine own_xladd X7 hx hby d25_144 ?_
      refine own_xlsub X7 hx hby d25_145 ?_
      show own_Go p e below K (T7.setTop (mkF m 146 #[own_J p1, .second, own_J (zd + ((-(((zd + (1 : Int64)) / (146097 : Int64)) - (1 : Int64))) * (146097 : Int64))), .second, own_J ((((zd + (1 : Int64)) / (146097 : Int64)) - (1 : Int64)) * (400 : Int64)), .second, own_J (ye - (1 : Int64)), .second, own_J de, .second, own_U, own_U, own_U, own_U] [(.long ((zd + ((-(((zd + (1 : Int64)) / (146097 : Int64)) - (1 : Int64))) * (146097 : Int64))) - (((((365 : Int64) * (ye - (1 : Int64))) + ((ye - (1 : Int64)) / (4 : Int64))) - ((ye - (1 : Int64)) / (100 : Int64))) + ((ye - (1 : Int64)) / (400 : Int64)))))]))
      generalize hdf : ((zd + ((-(((zd + (1 : Int64)) / (146097 : Int64)) - (1 : Int64))) * (146097 : Int64))) - (((((365 : Int64) * (ye - (1 : Int64))) + ((ye - (1 : Int64)) / (4 : Int64))) - ((ye - (1 : Int64)) / (100 : Int64))) + ((ye - (1 : Int64)) / (400 : Int64)))) = df
      show own_Go p e below K (T7.setTop (mkF m 146 #[own_J p1, .second, own_J (zd + ((-(((zd + (1 : Int64)) / (146097 : Int64)) - (1 : Int64))) * (146097 : Int64))), .second, own_J ((((zd + (1 : Int64)) / (146097 : Int64)) - (1 : Int64)) * (400 : Int64)), .second, own_J (ye - (1 : Int64)), .second, own_J de, .second, own_U, own_U, own_U, own_U] [(.long df)]))
      refine own_xlstore X7 hx hby d25_146 (l' := #[own_J p1, .second, own_J (zd + ((-(((zd + (1 : Int64)) / (146097 : Int64)) - (1 : Int64))) * (146097 : Int64))), .second, own_J ((((zd + (1 : Int64)) / (146097 : Int64)) - (1 : Int64)) * (400 : Int64)), .second, own_J (ye - (1 : Int64)), .second, own_J df, .second, own_U, own_U, own_U, own_U]) rfl ?_
      exact J148 T7 _ X7 e7 N7 ((ye - (1 : Int64))) (df) trivial
    refine own_xifYes X7 hx hby d25_108 (pc0 := 108) (pc' := 148) ((if0 _ _).trans (flt (fun q => hc108 ((lw_lt de (0 : Int64)).mp q))).2.1) rfl (by decide) (by decide) ?_
    exact J148 T7 _ X7 e7 N7 (ye) (de) trivial
  refine own_xifYes X7 hx hby d25_26 (pc0 := 26) (pc' := 58) ((if0 _ _).trans (flt (fun q => hc26 ((lw_lt zd (0 : Int64)).mp q))).2.1) rfl (by decide) (by decide) ?_
  refine own_st (X7.ldc2Long hx hown (mvT hZ (own_w hw 204 rfl)) (g := (mkF m 58 #[own_J p1, .second, own_J zd, .second, own_J 0, .second, own_U, own_U, own_U, own_U, own_U, own_U, own_U, own_U] [])) rfl (hb hby d25_58)) ?_
  refine own_xlloadN X7 hx hby d25_61 rfl ?_
  refine own_xlmul X7 hx hby d25_62 ?_
  refine own_st (X7.ldc2Long hx hown (mvT hZ (own_w hw 261 rfl)) (g := (mkF m 63 #[own_J p1, .second, own_J zd, .second, own_J 0, .second, own_U, own_U, own_U, own_U, own_U, own_U, own_U, own_U] [(.long ((400 : Int64) * zd))])) rfl (hb hby d25_63)) ?_
  refine own_xladd X7 hx hby d25_66 ?_
  refine own_st (X7.ldc2Long hx hown (mvT hZ (own_w hw 262 rfl)) (g := (mkF m 67 #[own_J p1, .second, own_J zd, .second, own_J 0, .second, own_U, own_U, own_U, own_U, own_U, own_U, own_U, own_U] [(.long (((400 : Int64) * zd) + (591 : Int64)))])) rfl (hb hby d25_67)) ?_
  refine own_xldiv X7 hx hby d25_70 (by decide) ?_
  show own_Go p e below K (T7.setTop (mkF m 71 #[own_J p1, .second, own_J zd, .second, own_J 0, .second, own_U, own_U, own_U, own_U, own_U, own_U, own_U, own_U] [(.long ((((400 : Int64) * zd) + (591 : Int64)) / (146097 : Int64)))]))
  generalize hye : ((((400 : Int64) * zd) + (591 : Int64)) / (146097 : Int64)) = ye
  show own_Go p e below K (T7.setTop (mkF m 71 #[own_J p1, .second, own_J zd, .second, own_J 0, .second, own_U, own_U, own_U, own_U, own_U, own_U, own_U, own_U] [(.long ye)]))
  refine own_xlstore X7 hx hby d25_71 (l' := #[own_J p1, .second, own_J zd, .second, own_J 0, .second, own_J ye, .second, own_U, own_U, own_U, own_U, own_U, own_U]) rfl ?_
  refine own_xlloadN X7 hx hby d25_73 rfl ?_
  refine own_st (X7.ldc2Long hx hown (mvT hZ (own_w hw 187 rfl)) (g := (mkF m 74 #[own_J p1, .second, own_J zd, .second, own_J 0, .second, own_J ye, .second, own_U, own_U, own_U, own_U, own_U, own_U] [(.long zd)])) rfl (hb hby d25_74)) ?_
  refine own_xlload X7 hx hby d25_77 rfl ?_
  refine own_xlmul X7 hx hby d25_79 ?_
  refine own_xlload X7 hx hby d25_80 rfl ?_
  refine own_st (X7.ldc2Long hx hown (mvT hZ (own_w hw 200 rfl)) (g := (mkF m 82 #[own_J p1, .second, own_J zd, .second, own_J 0, .second, own_J ye, .second, own_U, own_U, own_U, own_U, own_U, own_U] [(.long ye), (.long ((365 : Int64) * ye)), (.long zd)])) rfl (hb hby d25_82)) ?_
  refine own_xldiv X7 hx hby d25_85 (by decide) ?_
  refine own_xladd X7 hx hby d25_86 ?_
  refine own_xlload X7 hx hby d25_87 rfl ?_
  refine own_st (X7.ldc2Long hx hown (mvT hZ (own_w hw 202 rfl)) (g := (mkF m 89 #[own_J p1, .second, own_J zd, .second, own_J 0, .second, own_J ye, .second, own_U, own_U, own_U, own_U, own_U, own_U] [(.long ye), (.long (((365 : Int64) * ye) + (ye / (4 : Int64)))), (.long zd)])) rfl (hb hby d25_89)) ?_
  refine own_xldiv X7 hx hby d25_92 (by decide) ?_
  refine own_xlsub X7 hx hby d25_93 ?_
  refine own_xlload X7 hx hby d25_94 rfl ?_
  refine own_st (X7.ldc2Long hx hown (mvT hZ (own_w hw 204 rfl)) (g := (mkF m 96 #[own_J p1, .second, own_J zd, .second, own_J 0, .second, own_J ye, .second, own_U, own_U, own_U, own_U, own_U, own_U] [(.long ye), (.long ((((365 : Int64) * ye) + (ye / (4 : Int64))) - (ye / (100 : Int64)))), (.long zd)])) rfl (hb hby d25_96)) ?_
  refine own_xldiv X7 hx hby d25_99 (by decide) ?_
  refine own_xladd X7 hx hby d25_100 ?_
  refine own_xlsub X7 hx hby d25_101 ?_
  show own_Go p e below K (T7.setTop (mkF m 102 #[own_J p1, .second, own_J zd, .second, own_J 0, .second, own_J ye, .second, own_U, own_U, own_U, own_U, own_U, own_U] [(.long (zd - (((((365 : Int64) * ye) + (ye / (4 : Int64))) - (ye / (100 : Int64))) + (ye / (400 : Int64)))))]))
  generalize hde : (zd - (((((365 : Int64) * ye) + (ye / (4 : Int64))) - (ye / (100 : Int64))) + (ye / (400 : Int64)))) = de
  show own_Go p e below K (T7.setTop (mkF m 102 #[own_J p1, .second, own_J zd, .second, own_J 0, .second, own_J ye, .second, own_U, own_U, own_U, own_U, own_U, own_U] [(.long de)]))
  refine own_xlstore X7 hx hby d25_102 (l' := #[own_J p1, .second, own_J zd, .second, own_J 0, .second, own_J ye, .second, own_J de, .second, own_U, own_U, own_U, own_U]) rfl ?_
  have J148 : ∀ (T' : State) (locs' : List Loc) (X' : Stand p l e ({ frames := 4, cells := 1, slots := 3, locals := 57 } : Room) s m #[(.long p1)] below meth c T' locs' 0 0) (e' : T'.heap = h0) (N' : Fr n0 locs') (ja0 : Int64) (ja1 : Int64), (True) → own_Go p e below K (T'.setTop (mkF m 148 #[own_J p1, .second, own_J zd, .second, own_J 0, .second, own_J ja0, .second, own_J ja1, .second, own_U, own_U, own_U, own_U] [])) := by
    intro T18 locs18 X18 e18 N18 ja0 ja1 hj148
    refine own_xlload X18 hx hby d25_148 rfl ?_
    refine own_xlload X18 hx hby d25_150 rfl ?_
    refine own_xladd X18 hx hby d25_152 ?_
    show own_Go p e below K (T18.setTop (mkF m 153 #[own_J p1, .second, own_J zd, .second, own_J 0, .second, own_J ja0, .second, own_J ja1, .second, own_U, own_U, own_U, own_U] [(.long (ja0 + (0 : Int64)))]))
    generalize hyf : (ja0 + (0 : Int64)) = yf
    show own_Go p e below K (T18.setTop (mkF m 153 #[own_J p1, .second, own_J zd, .second, own_J 0, .second, own_J ja0, .second, own_J ja1, .second, own_U, own_U, own_U, own_U] [(.long yf)]))
    refine own_xlstore X18 hx hby d25_153 (l' := #[own_J p1, .second, own_J zd, .second, own_J 0, .second, own_J yf, .second, own_J ja1, .second, own_U, own_U, own_U, own_U]) rfl ?_
    refine own_xlload X18 hx hby d25_155 rfl ?_
    refine own_xl2i X18 hx hby d25_157 ?_
    show own_Go p e below K (T18.setTop (mkF m 158 #[own_J p1, .second, own_J zd, .second, own_J 0, .second, own_J yf, .second, own_J ja1, .second, own_U, own_U, own_U, own_U] [(.int (ja1.toInt32))]))
    generalize hmd : (ja1.toInt32) = md
    show own_Go p e below K (T18.setTop (mkF m 158 #[own_J p1, .second, own_J zd, .second, own_J 0, .second, own_J yf, .second, own_J ja1, .second, own_U, own_U, own_U, own_U] [(.int md)]))
    refine own_xistore X18 hx hby d25_158 (l' := #[own_J p1, .second, own_J zd, .second, own_J 0, .second, own_J yf, .second, own_J ja1, .second, own_I md, own_U, own_U, own_U]) rfl ?_
    refine own_xiload X18 hx hby d25_160 rfl ?_
    refine own_xiconst X18 hx hby d25_162 5 rfl ?_
    refine own_ximul X18 hx hby d25_163 ?_
    refine own_xiconst X18 hx hby d25_164 2 rfl ?_
    refine own_xiadd X18 hx hby d25_165 ?_
    refine own_xsipush X18 hx hby d25_166 153 rfl ?_
    refine own_xidiv X18 hx hby d25_169 (by decide) ?_
    show own_Go p e below K (T18.setTop (mkF m 170 #[own_J p1, .second, own_J zd, .second, own_J 0, .second, own_J yf, .second, own_J ja1, .second, own_I md, own_U, own_U, own_U] [(.int (((md * (5 : Int32)) + (2 : Int32)) / (153 : Int32)))]))
    generalize hmz : (((md * (5 : Int32)) + (2 : Int32)) / (153 : Int32)) = mz
    show own_Go p e below K (T18.setTop (mkF m 170 #[own_J p1, .second, own_J zd, .second, own_J 0, .second, own_J yf, .second, own_J ja1, .second, own_I md, own_U, own_U, own_U] [(.int mz)]))
    refine own_xistore X18 hx hby d25_170 (l' := #[own_J p1, .second, own_J zd, .second, own_J 0, .second, own_J yf, .second, own_J ja1, .second, own_I md, own_I mz, own_U, own_U]) rfl ?_
    refine own_xiload X18 hx hby d25_172 rfl ?_
    refine own_xiconst X18 hx hby d25_174 3 rfl ?_
    refine own_xiadd X18 hx hby d25_175 ?_
    show own_Go p e below K (T18.setTop (mkF m 176 #[own_J p1, .second, own_J zd, .second, own_J 0, .second, own_J yf, .second, own_J ja1, .second, own_I md, own_I mz, own_U, own_U] [(.int (mz + (3 : Int32)))]))
    generalize hmo : (mz + (3 : Int32)) = mo
    show own_Go p e below K (T18.setTop (mkF m 176 #[own_J p1, .second, own_J zd, .second, own_J 0, .second, own_J yf, .second, own_J ja1, .second, own_I md, own_I mz, own_U, own_U] [(.int mo)]))
    refine own_xistore X18 hx hby d25_176 (l' := #[own_J p1, .second, own_J zd, .second, own_J 0, .second, own_J yf, .second, own_J ja1, .second, own_I md, own_I mz, own_I mo, own_U]) rfl ?_
    have J188 : ∀ (T' : State) (locs' : List Loc) (X' : Stand p l e ({ frames := 4, cells := 1, slots := 3, locals := 57 } : Room) s m #[(.long p1)] below meth c T' locs' 0 0) (e' : T'.heap = h0) (N' : Fr n0 locs') (jb0 : Int32), (True) → own_Go p e below K (T'.setTop (mkF m 188 #[own_J p1, .second, own_J zd, .second, own_J 0, .second, own_J yf, .second, own_J ja1, .second, own_I md, own_I mz, own_I jb0, own_U] [])) := by
      intro T19 locs19 X19 e19 N19 jb0 hj188
      refine own_xiload X19 hx hby d25_188 rfl ?_
      refine own_xiload X19 hx hby d25_190 rfl ?_
      refine own_xsipush X19 hx hby d25_192 306 rfl ?_
      refine own_ximul X19 hx hby d25_195 ?_
      refine own_xiconst X19 hx hby d25_196 5 rfl ?_
      refine own_xiadd X19 hx hby d25_197 ?_
      refine own_xbipush X19 hx hby d25_198 10 rfl ?_
      refine own_xidiv X19 hx hby d25_200 (by decide) ?_
      refine own_xisub X19 hx hby d25_201 ?_
      refine own_xiconst X19 hx hby d25_202 1 rfl ?_
      refine own_xiadd X19 hx hby d25_203 ?_
      show own_Go p e below K (T19.setTop (mkF m 204 #[own_J p1, .second, own_J zd, .second, own_J 0, .second, own_J yf, .second, own_J ja1, .second, own_I md, own_I mz, own_I jb0, own_U] [(.int ((md - (((mz * (306 : Int32)) + (5 : Int32)) / (10 : Int32))) + (1 : Int32)))]))
      generalize hdm : ((md - (((mz * (306 : Int32)) + (5 : Int32)) / (10 : Int32))) + (1 : Int32)) = dm
      show own_Go p e below K (T19.setTop (mkF m 204 #[own_J p1, .second, own_J zd, .second, own_J 0, .second, own_J yf, .second, own_J ja1, .second, own_I md, own_I mz, own_I jb0, own_U] [(.int dm)]))
      refine own_xistore X19 hx hby d25_204 (l' := #[own_J p1, .second, own_J zd, .second, own_J 0, .second, own_J yf, .second, own_J ja1, .second, own_I md, own_I mz, own_I jb0, own_I dm]) rfl ?_
      have J220 : ∀ (T' : State) (locs' : List Loc) (X' : Stand p l e ({ frames := 4, cells := 1, slots := 3, locals := 57 } : Room) s m #[(.long p1)] below meth c T' locs' 0 0) (e' : T'.heap = h0) (N' : Fr n0 locs') (jc0 : Int64), (True) → own_Go p e below K (T'.setTop (mkF m 220 #[own_J p1, .second, own_J zd, .second, own_J 0, .second, own_J jc0, .second, own_J ja1, .second, own_I md, own_I mz, own_I jb0, own_I dm] [])) := by
        intro T20 locs20 X20 e20 N20 jc0 hj220
        obtain ⟨T21, h21, X21, e21, E21, A21, D21, -, st21⟩ := newO X20 hx hZ hown (own_w hw 263 rfl) (own_w hw 264 rfl) (own_w hw 177 rfl) e20 (g := (mkF m 220 #[own_J p1, .second, own_J zd, .second, own_J 0, .second, own_J jc0, .second, own_J ja1, .second, own_I md, own_I mz, own_I jb0, own_I dm] [])) rfl (hb hby d25_220) (by decide) (by decide)
        obtain ⟨b21, g21⟩ : ∃ z, z = h0.size := ⟨_, rfl⟩
        rw [← g21] at A21 D21 st21
        have g_b21 : n0 ≤ b21 := Nat.le_trans Z0 (Nat.le_of_eq g21.symm)
        have sz_b21 : h0.size ≤ b21 := Nat.le_trans (Keep.refl h0 []).1 (Nat.le_of_eq g21.symm)
        have f22 := P0.ext E21
        have f23 : Fld Z h21 b21 own_cD "year" "I" (.int 0) := D21 (Or.inr (own_w hw 184 rfl)) (ty := .int) (by decide)
        have f24 : Fld Z h21 b21 own_cD "month" "S" (.int 0) := D21 (Or.inr (own_w hw 186 rfl)) (ty := .short) (by decide)
        have f25 : Fld Z h21 b21 own_cD "day" "S" (.int 0) := D21 (Or.inr (own_w hw 195 rfl)) (ty := .short) (by decide)
        have Z21 := Nat.le_trans Z0 E21.1
        have K21 : Keep h0 h21 [] := (Keep.refl h0 []).ext E21
        refine own_st st21 ?_
        try clear X20 e20 st21 P0
        refine own_xdup X21 hx hby d25_223 rfl ?_
        refine own_xlload X21 hx hby d25_224 rfl ?_
        refine own_xl2i X21 hx hby d25_226 ?_
        refine own_xiload X21 hx hby d25_227 rfl ?_
        refine own_xiload X21 hx hby d25_229 rfl ?_
        obtain ⟨_, T26, L26, Lc26, X26, hQ26, Nf26, st26⟩ := own_back (cells := 1) (slots := 3) (rc := 0) (rs := 0) N20 (X21.specialBack hx (y := own_mt32) rfl hown (mvT hZ (own_w hw 265 rfl)) (mvT hZ (own_w hw 266 rfl)) (mvT hZ (own_w hw 267 rfl)) (by decide) (backOf (W := 1) (rm32 l Z a0 hw [] b21 (jc0.toInt32) jb0 dm h21 n0 Z21 g_b21 A21 f23 f24 f25) hZ (own_w hw 267 rfl) (own_w hw 177 rfl) (by decide) (by decide)) (g := (mkF m 231 #[own_J p1, .second, own_J zd, .second, own_J 0, .second, own_J jc0, .second, own_J ja1, .second, own_I md, own_I mz, own_I jb0, own_I dm] [(.int dm), (.int jb0), (.int (jc0.toInt32)), (.ref b21), (.ref b21)])) rfl (by rw [hml]; rfl) (Steps.refl _) (a := b21) (argsL := [(.int (jc0.toInt32)), (.int jb0), (.int dm)]) (rest := [(.ref b21)]) (lenOf pd_25_21 rfl) rfl (by show 2 * 0 + _ ≤ _; exact Nat.le_of_eq rfl) (hb hby d25_231) (fun _ _ => ⟨rfl, e21, (by decide : 1 + 0 ≤ _), (by decide : 3 + 0 ≤ _)⟩))
        obtain ⟨rfl, N26q, Kq26, p26_0, p26_1, p26_2, p26_3⟩ := hQ26
        have N26 := Nf26 N26q
        have f27 := f22.keep Kq26 (allS (P := fun x => n0 ≤ x) g_b21 all0)
        have Z26 := Nat.le_trans Z21 Kq26.1
        have K26 := K21.trans Kq26 (allS (P := fun x => x ∈ [] ∨ h0.size ≤ x) (Or.inr sz_b21) all0)
        refine own_tr st26 ?_
        try clear X21 e21 st26 N20 N26q f22
        obtain ⟨fs, hr, hrun, hended, hW, hsame⟩ := X26.leave (v := some (.ref b21)) (fun h => by rw [Bd.returns] at h; cases h)
        refine ⟨_, X26.areturnOut hx rfl Bd.returns rfl (hb hby d25_234) hr, fin _ _ _ hrun hended ?_ ⟨⟨_, rfl⟩, hW, hsame.mono (by decide) (by decide)⟩⟩
        show Q25 Z p1 xx h0 n0 _ T26.heap _
        exact ⟨_, (jc0.toInt32), (jb0.toInt16.toInt32).toInt16.toInt32, (dm.toInt16.toInt32).toInt16.toInt32, rfl, trivial, sz_b21, N26, K26, p26_0, p26_1, p26_2, p26_3⟩
      refine own_xiload X19 hx hby d25_206 rfl ?_
      refine own_xsipush X19 hx hby d25_208 306 rfl ?_
      by_cases hc211 : md < (306 : Int32)
      · refine own_xicmpYes X19 hx hby d25_211 (pc0 := 211) (pc' := 220) (tlt hc211).1 rfl (by decide) (by decide) ?_
        exact J220 T19 _ X19 e19 N19 (yf) trivial
      refine own_xicmpNo X19 hx hby d25_211 (flt hc211).1 ?_
      refine own_xlload X19 hx hby d25_214 rfl ?_
      refine own_st (fun _ => XS.lconst X19.here hx rfl (hb hby d25_216)) ?_
      refine own_xladd X19 hx hby d25_217 ?_
      refine own_xlstore X19 hx hby d25_218 (l' := #[own_J p1, .second, own_J zd, .second, own_J 0, .second, own_J (yf + (1 : Int64)), .second, own_J ja1, .second, own_I md, own_I mz, own_I jb0, own_I dm]) rfl ?_
      exact J220 T19 _ X19 e19 N19 ((yf + (1 : Int64))) trivial
    refine own_xiload X18 hx hby d25_178 rfl ?_
    refine own_xbipush X18 hx hby d25_180 12 rfl ?_
    by_cases hc182 : (12 : Int32) < mo
    · refine own_xicmpNo X18 hx hby d25_182 (tlt hc182).2.2.2 ?_
      refine own_xiinc X18 hx hby d25_185 rfl (l' := #[own_J p1, .second, own_J zd, .second, own_J 0, .second, own_J yf, .second, own_J ja1, .second, own_I md, own_I mz, own_I (mo + (-12 : Int32)), own_U]) rfl ?_
      exact J188 T18 _ X18 e18 N18 ((mo + (-12 : Int32))) trivial
    refine own_xicmpYes X18 hx hby d25_182 (pc0 := 182) (pc' := 188) (flt hc182).2.2.2 rfl (by decide) (by decide) ?_
    exact J188 T18 _ X18 e18 N18 (mo) trivial
  refine own_xlload X7 hx hby d25_104 rfl ?_
  refine own_st (fun _ => XS.lconst X7.here hx rfl (hb hby d25_106)) ?_
  refine own_xlcmp X7 hx hby d25_107 ?_
  by_cases hc108 : de < (0 : Int64)
  · refine own_xifNo X7 hx hby d25_108 ((if0 _ _).trans (tlt ((lw_lt de (0 : Int64)).mpr hc108)).2.1) ?_
    refine own_xlload X7 hx hby d25_111 rfl ?_
    refine own_st (fun _ => XS.lconst X7.here hx rfl (hb hby d25_113)) ?_
    refine own_xlsub X7 hx hby d25_114 ?_
    refine own_xlstore X7 hx hby d25_115 (l' := #[own_J p1, .second, own_J zd, .second, own_J 0, .second, own_J (ye - (1 : Int64)), .second, own_J de, .second, own_U, own_U, own_U, own_U]) rfl ?_
    refine own_xlloadN X7 hx hby d25_117 rfl ?_
    refine own_st (X7.ldc2Long hx hown (mvT hZ (own_w hw 187 rfl)) (g := (mkF m 118 #[own_J p1, .second, own_J zd, .second, own_J 0, .second, own_J (ye - (1 : Int64)), .second, own_J de, .second, own_U, own_U, own_U, own_U] [(.long zd)])) rfl (hb hby d25_118)) ?_
    refine own_xlload X7 hx hby d25_121 rfl ?_
    refine own_xlmul X7 hx hby d25_123 ?_
    refine own_xlload X7 hx hby d25_124 rfl ?_
    refine own_st (X7.ldc2Long hx hown (mvT hZ (own_w hw 200 rfl)) (g := (mkF m 126 #[own_J p1, .second, own_J zd, .second, own_J 0, .second, own_J (ye - (1 : Int64)), .second, own_J de, .second, own_U, own_U, own_U, own_U] [(.long (ye - (1 : Int64))), (.long ((365 : Int64) * (ye - (1 : Int64)))), (.long zd)])) rfl (hb hby d25_126)) ?_
    refine own_xldiv X7 hx hby d25_129 (by decide) ?_
    refine own_xladd X7 hx hby d25_130 ?_
    refine own_xlload X7 hx hby d25_131 rfl ?_
    refine own_st (X7.ldc2Long hx hown (mvT hZ (own_w hw 202 rfl)) (g := (mkF m 133 #[own_J p1, .second, own_J zd, .second, own_J 0, .second, own_J (ye - (1 : Int64)), .second, own_J de, .second, own_U, own_U, own_U, own_U] [(.long (ye - (1 : Int64))), (.long (((365 : Int64) * (ye - (1 : Int64))) + ((ye - (1 : Int64)) / (4 : Int64)))), (.long zd)])) rfl (hb hby d25_133)) ?_
    refine own_xldiv X7 hx hby d25_136 (by decide) ?_
    refine own_xlsub X7 hx hby d25_137 ?_
    refine own_xlload X7 hx hby d25_138 rfl ?_
    refine own_st (X7.ldc2Long hx hown (mvT hZ (own_w hw 204 rfl)) (g := (mkF m 140 #[own_J p1, .second, own_J zd, .second, own_J 0, .second, own_J (ye - (1 : Int64)), .second, own_J de, .second, own_U, own_U, own_U, own_U] [(.long (ye - (1 : Int64))), (.long ((((365 : Int64) * (ye - (1 : Int64))) + ((ye - (1 : Int64)) / (4 : Int64))) - ((ye - (1 : Int64)) / (100 : Int64)))), (.long zd)])) rfl (hb hby d25_140)) ?_
    refine own_xldiv X7 hx hby d25_143 (by decide) ?_
    refine own_xladd X7 hx hby d25_144 ?_
    refine own_xlsub X7 hx hby d25_145 ?_
    show own_Go p e below K (T7.setTop (mkF m 146 #[own_J p1, .second, own_J zd, .second, own_J 0, .second, own_J (ye - (1 : Int64)), .second, own_J de, .second, own_U, own_U, own_U, own_U] [(.long (zd - (((((365 : Int64) * (ye - (1 : Int64))) + ((ye - (1 : Int64)) / (4 : Int64))) - ((ye - (1 : Int64)) / (100 : Int64))) + ((ye - (1 : Int64)) / (400 : Int64)))))]))
    generalize hdf : (zd - (((((365 : Int64) * (ye - (1 : Int64))) + ((ye - (1 : Int64)) / (4 : Int64))) - ((ye - (1 : Int64)) / (100 : Int64))) + ((ye - (1 : Int64)) / (400 : Int64)))) = df
    show own_Go p e below K (T7.setTop (mkF m 146 #[own_J p1, .second, own_J zd, .second, own_J 0, .second, own_J (ye - (1 : Int64)), .second, own_J de, .second, own_U, own_U, own_U, own_U] [(.long df)]))
    refine own_xlstore X7 hx hby d25_146 (l' := #[own_J p1, .second, own_J zd, .second, own_J 0, .second, own_J (ye - (1 : Int64)), .second, own_J df, .second, own_U, own_U, own_U, own_U]) rfl ?_
    exact J148 T7 _ X7 e7 N7 ((ye - (1 : Int64))) (df) trivial
  refine own_xifYes X7 hx hby d25_108 (pc0 := 108) (pc' := 148) ((if0 _ _).trans (flt (fun q => hc108 ((lw_lt de (0 : Int64)).mp q))).2.1) rfl (by decide) (by decide) ?_
  exact J148 T7 _ X7 e7 N7 (ye) (de) trivial
theorem d11_0 : decode oB11 0 = .ok (.aload_n 0, 1) := by decide +kernel
theorem d11_1 : decode oB11 1 = .ok (.getfield 22, 3) := by decide +kernel
theorem d11_4 : decode oB11 4 = .ok (.aload_n 0, 1) := by decide +kernel
theorem d11_5 : decode oB11 5 = .ok (.getfield 26, 3) := by decide +kernel
theorem d11_8 : decode oB11 8 = .ok (.if_icmp .ne 13, 3) := by decide +kernel
theorem d11_21 : decode oB11 21 = .ok (.aload_n 0, 1) := by decide +kernel
theorem d11_22 : decode oB11 22 = .ok (.getfield 18, 3) := by decide +kernel
theorem d11_25 : decode oB11 25 = .ok (.aload_n 0, 1) := by decide +kernel
theorem d11_26 : decode oB11 26 = .ok (.dup, 1) := by decide +kernel
theorem d11_27 : decode oB11 27 = .ok (.getfield 22, 3) := by decide +kernel
theorem d11_30 : decode oB11 30 = .ok (.dup_x1, 1) := by decide +kernel
theorem d11_31 : decode oB11 31 = .ok (.iconst 1, 1) := by decide +kernel
theorem d11_32 : decode oB11 32 = .ok (.iadd, 1) := by decide +kernel
theorem d11_33 : decode oB11 33 = .ok (.putfield 22, 3) := by decide +kernel
theorem d11_36 : decode oB11 36 = .ok (.baload, 1) := by decide +kernel
theorem d11_37 : decode oB11 37 = .ok (.ireturn, 1) := by decide +kernel
theorem pn_11 : plainName own_cR = true := by first | (simp [plainName, overriddenIn]; done) | decide +kernel
theorem ef_11 (m : MethodId) (x0 : Addr) : entryFrame m #[(.ref x0)] 1 = mkF m 0 #[own_R x0] [] := by first | (simp [entryFrame, mkF, argsToLocals, Value.category]; done) | rfl
def Q11 (Z : State) (a1 : Addr) (xa : Addr) (xk : ClassId) (ws : List Int32) (kp : Addr) (xp : Int32) (xj : Int32) (xv : Int32) (h0 : Heap) (n0 : Nat) (v : Option Value) (h : Heap) (L : List Loc) : Prop := v = some (.int xv) ∧ Fr n0 L ∧ Keep h0 h [a1] ∧ (Exa Z h a1 own_cR) ∧ (Fld Z h a1 own_cR "bytes" "[B" (.ref xa)) ∧ (Fld Z h a1 own_cR "position" "I" (.int xj)) ∧ (Fld Z h a1 own_cR "end" "I" (.int 24)) ∧ (Fld Z h a1 own_cR "kept" "Ljava/util/List;" (.ref kp))
theorem rm11 (l : Launch) (Z : State) (a0 : Array Value) (hw : ∀ d ∈ tables_1, d.before a0 Z = true) (ws_ : List Jvm.Cond) (a1 : Addr) (xa : Addr) (xk : ClassId) (ws : List Int32) (kp : Addr) (xp : Int32) (xj : Int32) (xv : Int32) (h0 : Heap) (n0 : Nat) (Z0 : n0 ≤ h0.size) (g_a1 : n0 ≤ a1) (ne_a1_xa : a1 ≠ xa) (P0 : Exa Z h0 a1 own_cR) (P1 : Fld Z h0 a1 own_cR "bytes" "[B" (.ref xa)) (P2 : Fld Z h0 a1 own_cR "position" "I" (.int xp)) (P3 : Fld Z h0 a1 own_cR "end" "I" (.int 24)) (P4 : Fld Z h0 a1 own_cR "kept" "Ljava/util/List;" (.ref kp)) (P5 : Arv Z h0 xa xk .byte (24 : Int32) (ws.map Value.int) (.int 0)) (hne : ¬ xp = (24 : Int32)) (hin : ¬ xp < 0 ∧ xp < (24 : Int32)) (hpj : (xp + (1 : Int32)) = xj) (hv : nar .byte (ws.getD (xp).toNatClampNeg 0) = xv) :
    own_Met l own_mt11 oB11 1 (some .byte) ws_ ({ frames := 0, cells := 0, slots := 0, locals := 0 } : Room) #[(.ref a1)] Z h0 (Q11 Z a1 xa xk ws kp xp xj xv h0 n0) := by
  refine own_met n0 (plainFor_of_name pn_11) (fun m => ef_11 m a1) ?_
  intro p e s m below meth c s₁ Bd hZ hx hby hml hown' hnm X0 e0 N0 K fin
  have hown : s.vm.findClass own_cR = some m.cls := hown'
  show own_Go p e below K (s₁.setTop (mkF m 0 #[own_R a1] []))
  refine own_xaloadN X0 hx hby d11_0 rfl rfl ?_
  obtain ⟨T1, X1, e1, st1⟩ := getF X0 hx hZ hown (host := "") (Or.inl (own_w hw 74 rfl)) Via.refl e0 P2 (g := (mkF m 1 #[own_R a1] [(.ref a1)])) rfl rfl (hb hby d11_1)
  refine own_st st1 ?_
  refine own_xaloadN X1 hx hby d11_4 rfl rfl ?_
  obtain ⟨T2, X2, e2, st2⟩ := getF X1 hx hZ hown (host := "") (Or.inl (own_w hw 76 rfl)) Via.refl e1 P3 (g := (mkF m 5 #[own_R a1] [(.ref a1), (.int xp)])) rfl rfl (hb hby d11_5)
  refine own_st st2 ?_
  refine own_xicmpYes X2 hx hby d11_8 (pc0 := 8) (pc' := 21) (feq (hne : ¬ (xp = (24 : Int32)))).2 rfl (by decide) (by decide) ?_
  refine own_xaloadN X2 hx hby d11_21 rfl rfl ?_
  obtain ⟨T3, X3, e3, st3⟩ := getF X2 hx hZ hown (host := "") (Or.inl (own_w hw 72 rfl)) Via.refl e2 P1 (g := (mkF m 22 #[own_R a1] [(.ref a1)])) rfl rfl (hb hby d11_22)
  refine own_st st3 ?_
  refine own_xaloadN X3 hx hby d11_25 rfl rfl ?_
  refine own_xdup X3 hx hby d11_26 rfl ?_
  obtain ⟨T4, X4, e4, st4⟩ := getF X3 hx hZ hown (host := "") (Or.inl (own_w hw 74 rfl)) Via.refl e3 P2 (g := (mkF m 27 #[own_R a1] [(.ref a1), (.ref a1), (.ref xa)])) rfl rfl (hb hby d11_27)
  refine own_st st4 ?_
  refine own_st (fun _ => XS.dupX1 X4.here hx rfl (hb hby d11_30) rfl rfl rfl) ?_
  refine own_xiconst X4 hx hby d11_31 1 rfl ?_
  refine own_xiadd X4 hx hby d11_32 ?_
  obtain ⟨T5, h5, X5, e5, W5, st5⟩ := putF X4 hx hZ hown (host := "") (Or.inl (own_w hw 74 rfl)) Via.refl e4 P2 P0 (Or.inl (own_w hw 75 rfl)) (own_w hw 40 rfl) (ty := .int) (by decide) rfl rfl (g := (mkF m 33 #[own_R a1] [(.int (xp + (1 : Int32))), (.ref a1), (.int xp), (.ref xa)])) rfl rfl (hb hby d11_33)
  have fw5 : Fld Z h5 a1 own_cR "position" "I" (.int (xp + (1 : Int32))) := P2.same W5
  have f6 := P0.wr W5
  have f7 := P1.other W5 (Or.inr (slot_ne (Or.inr (own_w hw 73 rfl)) (Or.inl (own_w hw 75 rfl)) (by decide) (t := (.array .byte)) (t' := .int) (by decide) (by decide)))
  have f8 := P3.other W5 (Or.inr (slot_ne (Or.inr (own_w hw 77 rfl)) (Or.inl (own_w hw 75 rfl)) (by decide) (t := .int) (t' := .int) (by decide) (by decide)))
  have f9 := P4.other W5 (Or.inr (slot_ne (Or.inr (own_w hw 71 rfl)) (Or.inl (own_w hw 75 rfl)) (by decide) (t := (.object "java/util/List")) (t' := .int) (by decide) (by decide)))
  have f10 := P5.other W5 (Ne.symm ne_a1_xa)
  have N5 := Fr.snoc X5 N0 g_a1
  have Z5 := Nat.le_trans Z0 (Keep.of_wr W5).1
  have K5 : Keep h0 h5 [a1] := (Keep.refl h0 [a1]).wr W5 (Or.inl (List.mem_of_getElem? (i := 0) rfl))
  refine own_st st5 ?_
  obtain ⟨cl11, Ar11, qa11, Sa11, Ma11, Ha11, Ga11⟩ := id f10
  have hin11 : ¬ (xp < 0 ∨ cl11.slots.size ≤ (xp).toNatClampNeg) := inb_of Sa11 hin
  refine own_st (X5.baloadBytes hx (j := xp) (v := (.int (ws.getD (xp).toNatClampNeg 0))) (own_hat e5 Ar11.1) (State.isArrayOf_alike hZ.alike Ar11.2.1) Ar11.2.2 hin11 (Has.at Ha11 hin11 (own_atI ws _)) (g := (mkF m 36 #[own_R a1] [(.int xp), (.ref xa)])) rfl rfl (hb hby d11_36)) ?_
  show own_Go p e below K (T5.setTop (mkF m 37 #[own_R a1] [(.int (ws.getD (xp).toNatClampNeg 0))]))
  obtain ⟨fs, hr, hrun, hended, hW, hsame⟩ := X5.leave (v := some (.int (nar .byte (ws.getD (xp).toNatClampNeg 0)))) (fun h => by rw [Bd.returns] at h; cases h)
  refine ⟨_, retN X5 hx (t := .byte) Bd.returns (by simp) (hb hby d11_37) hr, fin _ _ _ hrun hended ?_ ⟨⟨_, rfl⟩, hW, hsame.mono (by decide) (by decide)⟩⟩
  show Q11 Z a1 xa xk ws kp xp xj xv h0 n0 _ T5.heap _
  rw [e5]
  exact ⟨(congrArg (fun z => some (Value.int z)) hv), N5, K5, f6, f7, (by rw [← hpj]; exact fw5), f8, f9⟩
theorem d12_0 : decode oB12 0 = .ok (.aload_n 0, 1) := by decide +kernel
theorem d12_1 : decode oB12 1 = .ok (.invokevirtual 29, 3) := by decide +kernel
theorem d12_4 : decode oB12 4 = .ok (.istore_n 1, 1) := by decide +kernel
theorem d12_5 : decode oB12 5 = .ok (.iload_n 1, 1) := by decide +kernel
theorem d12_6 : decode oB12 6 = .ok (.ifCond .eq 22, 3) := by decide +kernel
theorem d12_9 : decode oB12 9 = .ok (.iload_n 1, 1) := by decide +kernel
theorem d12_10 : decode oB12 10 = .ok (.iconst 1, 1) := by decide +kernel
theorem d12_11 : decode oB12 11 = .ok (.if_icmp .eq 17, 3) := by decide +kernel
theorem d12_28 : decode oB12 28 = .ok (.iload_n 1, 1) := by decide +kernel
theorem d12_29 : decode oB12 29 = .ok (.iconst 1, 1) := by decide +kernel
theorem d12_30 : decode oB12 30 = .ok (.if_icmp .ne 7, 3) := by decide +kernel
theorem d12_33 : decode oB12 33 = .ok (.iconst 1, 1) := by decide +kernel
theorem d12_34 : decode oB12 34 = .ok (.goto 4, 3) := by decide +kernel
theorem d12_37 : decode oB12 37 = .ok (.iconst 0, 1) := by decide +kernel
theorem d12_38 : decode oB12 38 = .ok (.ireturn, 1) := by decide +kernel
theorem pn_12 : plainName own_cR = true := by first | (simp [plainName, overriddenIn]; done) | decide +kernel
theorem pd_12_6 : parseMethodDescriptor "()B" = some ⟨[], some .byte⟩ := by decide +kernel
theorem ef_12 (m : MethodId) (x0 : Addr) : entryFrame m #[(.ref x0)] 2 = mkF m 0 #[own_R x0, .unset] [] := by first | (simp [entryFrame, mkF, argsToLocals, Value.category]; done) | rfl
def Q12 (Z : State) (a1 : Addr) (xa : Addr) (xk : ClassId) (ws : List Int32) (kp : Addr) (xp : Int32) (xj : Int32) (xv : Int32) (h0 : Heap) (n0 : Nat) (v : Option Value) (h : Heap) (L : List Loc) : Prop := v = some (.int xv) ∧ Fr n0 L ∧ Keep h0 h [a1] ∧ (Exa Z h a1 own_cR) ∧ (Fld Z h a1 own_cR "bytes" "[B" (.ref xa)) ∧ (Fld Z h a1 own_cR "position" "I" (.int xj)) ∧ (Fld Z h a1 own_cR "end" "I" (.int 24)) ∧ (Fld Z h a1 own_cR "kept" "Ljava/util/List;" (.ref kp))
theorem rm12 (l : Launch) (Z : State) (a0 : Array Value) (hw : ∀ d ∈ tables_1, d.before a0 Z = true) (ws_ : List Jvm.Cond) (a1 : Addr) (xa : Addr) (xk : ClassId) (ws : List Int32) (kp : Addr) (xp : Int32) (xj : Int32) (xv : Int32) (h0 : Heap) (n0 : Nat) (Z0 : n0 ≤ h0.size) (g_a1 : n0 ≤ a1) (ne_a1_xa : a1 ≠ xa) (P0 : Exa Z h0 a1 own_cR) (P1 : Fld Z h0 a1 own_cR "bytes" "[B" (.ref xa)) (P2 : Fld Z h0 a1 own_cR "position" "I" (.int xp)) (P3 : Fld Z h0 a1 own_cR "end" "I" (.int 24)) (P4 : Fld Z h0 a1 own_cR "kept" "Ljava/util/List;" (.ref kp)) (P5 : Arv Z h0 xa xk .byte (24 : Int32) (ws.map Value.int) (.int 0)) (hne : ¬ xp = (24 : Int32)) (hin : ¬ xp < 0 ∧ xp < (24 : Int32)) (hpj : (xp + (1 : Int32)) = xj) (hv : nar .byte (ws.getD (xp).toNatClampNeg 0) = xv) (h01 : xv = 0 ∨ xv = 1) :
    own_Met l own_mt12 oB12 2 (some .boolean) ws_ ({ frames := 1, cells := 0, slots := 0, locals := 12 } : Room) #[(.ref a1)] Z h0 (Q12 Z a1 xa xk ws kp xp xj xv h0 n0) := by
  refine own_met n0 (plainFor_of_name pn_12) (fun m => ef_12 m a1) ?_
  intro p e s m below meth c s₁ Bd hZ hx hby hml hown' hnm X0 e0 N0 K fin
  have hown : s.vm.findClass own_cR = some m.cls := hown'
  show own_Go p e below K (s₁.setTop (mkF m 0 #[own_R a1, own_U] []))
  refine own_xaloadN X0 hx hby d12_0 rfl rfl ?_
  obtain ⟨cq1, qv1, qv1'⟩ := P0.cell
  obtain ⟨_, T1, L1, Lc1, X1, hQ1, Nf1, st1⟩ := own_back (cells := 0) (slots := 0) (rc := 0) (rs := 0) N0 (X0.privateBack hx (y := own_mt11) hown (mvT hZ (own_w hw 93 rfl)) (mvT hZ (own_w hw 94 rfl)) (own_selp hZ (own_w hw 40 rfl) (own_w hw 94 rfl) (own_w hw 95 rfl) (by decide)) (Cond.privateMethod_at (mvP hZ (own_w hw 95 rfl) (args := #[]))) (mvT hZ (own_w hw 96 rfl)) (by decide) (backOf (W := 0) (rm11 l Z a0 hw [] a1 (xa) (xk) (ws) (kp) (xp) (xj) (xv) h0 n0 Z0 g_a1 ne_a1_xa P0 P1 P2 P3 P4 P5 (by assumption) (by assumption) (by assumption) (by assumption)) hZ (own_w hw 96 rfl) (own_w hw 41 rfl) (by decide) (by decide)) (g := (mkF m 1 #[own_R a1, own_U] [(.ref a1)])) rfl (by rw [hml]; rfl) (Steps.refl _) (a := a1) (own_hat e0 qv1) qv1' (argsL := []) (rest := []) (lenOf pd_12_6 rfl) rfl (by show 2 * 0 + _ ≤ _; exact Nat.le_of_eq rfl) (hb hby d12_1) (fun _ _ => ⟨rfl, e0, (by decide : 0 + 0 ≤ _), (by decide : 0 + 0 ≤ _)⟩))
  obtain ⟨rfl, N1q, Kq1, p1_0, p1_1, p1_2, p1_3, p1_4⟩ := hQ1
  have N1 := Nf1 N1q
  have f2 := P5.keep Kq1 (ninS (Ne.symm ne_a1_xa) nin0)
  have Z1 := Nat.le_trans Z0 Kq1.1
  have K1 : Keep h0 T1.heap [a1] := (Keep.refl h0 [a1]).trans Kq1 (allS (P := fun x => x ∈ [a1] ∨ h0.size ≤ x) (Or.inl (List.mem_of_getElem? (i := 0) rfl)) all0)
  refine own_tr st1 ?_
  refine own_xistoreN X1 hx hby d12_4 (l' := #[own_R a1, own_I xv]) rfl ?_
  refine own_xiloadN X1 hx hby d12_5 rfl ?_
  by_cases hc6 : xv = (0 : Int32)
  · refine own_xifYes X1 hx hby d12_6 (pc0 := 6) (pc' := 28) ((if0 _ _).trans (teq hc6).1) rfl (by decide) (by decide) ?_
    refine own_xiloadN X1 hx hby d12_28 rfl ?_
    refine own_xiconst X1 hx hby d12_29 1 rfl ?_
    refine own_xicmpYes X1 hx hby d12_30 (pc0 := 30) (pc' := 37) (feq (by rw [hc6]; decide : ¬ (xv = (1 : Int32)))).2 rfl (by decide) (by decide) ?_
    refine own_xiconst X1 hx hby d12_37 0 rfl ?_
    obtain ⟨fs, hr, hrun, hended, hW, hsame⟩ := X1.leave (v := some (.int (nar .boolean (0 : Int32)))) (fun h => by rw [Bd.returns] at h; cases h)
    refine ⟨_, retN X1 hx (t := .boolean) Bd.returns (by simp) (hb hby d12_38) hr, fin _ _ _ hrun hended ?_ ⟨⟨_, rfl⟩, hW, hsame.mono (by decide) (by decide)⟩⟩
    show Q12 Z a1 xa xk ws kp xp xj xv h0 n0 _ T1.heap _
    exact ⟨(by rw [hc6]; rfl), N1, K1, p1_0, p1_1, p1_2, p1_3, p1_4⟩
  refine own_xifNo X1 hx hby d12_6 ((if0 _ _).trans (feq hc6).1) ?_
  refine own_xiloadN X1 hx hby d12_9 rfl ?_
  refine own_xiconst X1 hx hby d12_10 1 rfl ?_
  refine own_xicmpYes X1 hx hby d12_11 (pc0 := 11) (pc' := 28) (teq (h01.resolve_left hc6 : xv = (1 : Int32))).1 rfl (by decide) (by decide) ?_
  refine own_xiloadN X1 hx hby d12_28 rfl ?_
  refine own_xiconst X1 hx hby d12_29 1 rfl ?_
  refine own_xicmpNo X1 hx hby d12_30 (teq (h01.resolve_left hc6 : xv = (1 : Int32))).2 ?_
  refine own_xiconst X1 hx hby d12_33 1 rfl ?_
  refine own_xgoto X1 hx hby d12_34 (pc0 := 34) (pc' := 38) rfl (by decide) (by decide) ?_
  obtain ⟨fs, hr, hrun, hended, hW, hsame⟩ := X1.leave (v := some (.int (nar .boolean (1 : Int32)))) (fun h => by rw [Bd.returns] at h; cases h)
  refine ⟨_, retN X1 hx (t := .boolean) Bd.returns (by simp) (hb hby d12_38) hr, fin _ _ _ hrun hended ?_ ⟨⟨_, rfl⟩, hW, hsame.mono (by decide) (by decide)⟩⟩
  show Q12 Z a1 xa xk ws kp xp xj xv h0 n0 _ T1.heap _
  exact ⟨(by rw [h01.resolve_left hc6]; rfl), N1, K1, p1_0, p1_1, p1_2, p1_3, p1_4⟩
theorem d10_0 : decode oB10 0 = .ok (.lconst 0, 1) := by decide +kernel
theorem d10_1 : decode oB10 1 = .ok (.lstore_n 1, 1) := by decide +kernel
theorem d10_2 : decode oB10 2 = .ok (.iconst 0, 1) := by decide +kernel
theorem d10_3 : decode oB10 3 = .ok (.istore_n 3, 1) := by decide +kernel
theorem d10_4 : decode oB10 4 = .ok (.iload_n 3, 1) := by decide +kernel
theorem d10_5 : decode oB10 5 = .ok (.bipush 63, 2) := by decide +kernel
theorem d10_7 : decode oB10 7 = .ok (.if_icmp .ge 33, 3) := by decide +kernel
theorem d10_10 : decode oB10 10 = .ok (.aload_n 0, 1) := by decide +kernel
theorem d10_11 : decode oB10 11 = .ok (.invokevirtual 29, 3) := by decide +kernel
theorem d10_14 : decode oB10 14 = .ok (.istore 4, 2) := by decide +kernel
theorem d10_16 : decode oB10 16 = .ok (.lload_n 1, 1) := by decide +kernel
theorem d10_17 : decode oB10 17 = .ok (.iload 4, 2) := by decide +kernel
theorem d10_19 : decode oB10 19 = .ok (.bipush 127, 2) := by decide +kernel
theorem d10_21 : decode oB10 21 = .ok (.iand, 1) := by decide +kernel
theorem d10_22 : decode oB10 22 = .ok (.i2l, 1) := by decide +kernel
theorem d10_23 : decode oB10 23 = .ok (.iload_n 3, 1) := by decide +kernel
theorem d10_24 : decode oB10 24 = .ok (.lshl, 1) := by decide +kernel
theorem d10_25 : decode oB10 25 = .ok (.lor, 1) := by decide +kernel
theorem d10_26 : decode oB10 26 = .ok (.lstore_n 1, 1) := by decide +kernel
theorem d10_27 : decode oB10 27 = .ok (.iload 4, 2) := by decide +kernel
theorem d10_29 : decode oB10 29 = .ok (.ifCond .lt 5, 3) := by decide +kernel
theorem d10_32 : decode oB10 32 = .ok (.lload_n 1, 1) := by decide +kernel
theorem d10_33 : decode oB10 33 = .ok (.lreturn, 1) := by decide +kernel
theorem pn_10 : plainName own_cR = true := by first | (simp [plainName, overriddenIn]; done) | decide +kernel
theorem pd_10_6 : parseMethodDescriptor "()B" = some ⟨[], some .byte⟩ := by decide +kernel
theorem ef_10 (m : MethodId) (x0 : Addr) : entryFrame m #[(.ref x0)] 5 = mkF m 0 #[own_R x0, .unset, .unset, .unset, .unset] [] := by first | (simp [entryFrame, mkF, argsToLocals, Value.category]; done) | rfl
def Q10 (Z : State) (a1 : Addr) (xa : Addr) (xk : ClassId) (ws : List Int32) (kp : Addr) (xp : Int32) (xj : Int32) (xv : Int32) (xu : Int64) (h0 : Heap) (n0 : Nat) (v : Option Value) (h : Heap) (L : List Loc) : Prop := v = some (.long xu) ∧ Fr n0 L ∧ Keep h0 h [a1] ∧ (Exa Z h a1 own_cR) ∧ (Fld Z h a1 own_cR "bytes" "[B" (.ref xa)) ∧ (Fld Z h a1 own_cR "position" "I" (.int xj)) ∧ (Fld Z h a1 own_cR "end" "I" (.int 24)) ∧ (Fld Z h a1 own_cR "kept" "Ljava/util/List;" (.ref kp))
theorem rm10 (l : Launch) (Z : State) (a0 : Array Value) (hw : ∀ d ∈ tables_1, d.before a0 Z = true) (ws_ : List Jvm.Cond) (a1 : Addr) (xa : Addr) (xk : ClassId) (ws : List Int32) (kp : Addr) (xp : Int32) (xj : Int32) (xv : Int32) (xu : Int64) (h0 : Heap) (n0 : Nat) (Z0 : n0 ≤ h0.size) (g_a1 : n0 ≤ a1) (ne_a1_xa : a1 ≠ xa) (P0 : Exa Z h0 a1 own_cR) (P1 : Fld Z h0 a1 own_cR "bytes" "[B" (.ref xa)) (P2 : Fld Z h0 a1 own_cR "position" "I" (.int xp)) (P3 : Fld Z h0 a1 own_cR "end" "I" (.int 24)) (P4 : Fld Z h0 a1 own_cR "kept" "Ljava/util/List;" (.ref kp)) (P5 : Arv Z h0 xa xk .byte (24 : Int32) (ws.map Value.int) (.int 0)) (hne : ¬ xp = (24 : Int32)) (hin : ¬ xp < 0 ∧ xp < (24 : Int32)) (hpj : (xp + (1 : Int32)) = xj) (hv : nar .byte (ws.getD (xp).toNatClampNeg 0) = xv) (hnn : ¬ xv < (0 : Int32)) (hxu : ((0 : Int64) ||| (((xv &&& (127 : Int32)).toInt64) <<< ((0 : Int32) &&& 0x3f).toInt64)) = xu) :
    own_Met l own_mt10 oB10 5 (some .long) ws_ ({ frames := 1, cells := 0, slots := 0, locals := 12 } : Room) #[(.ref a1)] Z h0 (Q10 Z a1 xa xk ws kp xp xj xv xu h0 n0) := by
  refine own_met n0 (plainFor_of_name pn_10) (fun m => ef_10 m a1) ?_
  intro p e s m below meth c s₁ Bd hZ hx hby hml hown' hnm X0 e0 N0 K fin
  have hown : s.vm.findClass own_cR = some m.cls := hown'
  show own_Go p e below K (s₁.setTop (mkF m 0 #[own_R a1, own_U, own_U, own_U, own_U] []))
  refine own_st (fun _ => XS.lconst X0.here hx rfl (hb hby d10_0)) ?_
  refine own_xlstoreN X0 hx hby d10_1 (l' := #[own_R a1, own_J 0, .second, own_U, own_U]) rfl ?_
  refine own_xiconst X0 hx hby d10_2 0 rfl ?_
  refine own_xistoreN X0 hx hby d10_3 (l' := #[own_R a1, own_J 0, .second, own_I 0, own_U]) rfl ?_
  refine own_xiloadN X0 hx hby d10_4 rfl ?_
  refine own_xbipush X0 hx hby d10_5 63 rfl ?_
  refine own_xicmpNo X0 hx hby d10_7 (tlt (by decide : (0 : Int32) < (63 : Int32))).2.1 ?_
  refine own_xaloadN X0 hx hby d10_10 rfl rfl ?_
  obtain ⟨cq1, qv1, qv1'⟩ := P0.cell
  obtain ⟨_, T1, L1, Lc1, X1, hQ1, Nf1, st1⟩ := own_back (cells := 0) (slots := 0) (rc := 0) (rs := 0) N0 (X0.privateBack hx (y := own_mt11) hown (mvT hZ (own_w hw 93 rfl)) (mvT hZ (own_w hw 94 rfl)) (own_selp hZ (own_w hw 40 rfl) (own_w hw 94 rfl) (own_w hw 95 rfl) (by decide)) (Cond.privateMethod_at (mvP hZ (own_w hw 95 rfl) (args := #[]))) (mvT hZ (own_w hw 96 rfl)) (by decide) (backOf (W := 0) (rm11 l Z a0 hw [] a1 (xa) (xk) (ws) (kp) (xp) (xj) (xv) h0 n0 Z0 g_a1 ne_a1_xa P0 P1 P2 P3 P4 P5 (by assumption) (by assumption) (by assumption) (by assumption)) hZ (own_w hw 96 rfl) (own_w hw 41 rfl) (by decide) (by decide)) (g := (mkF m 11 #[own_R a1, own_J 0, .second, own_I 0, own_U] [(.ref a1)])) rfl (by rw [hml]; rfl) (Steps.refl _) (a := a1) (own_hat e0 qv1) qv1' (argsL := []) (rest := []) (lenOf pd_10_6 rfl) rfl (by show 2 * 0 + _ ≤ _; exact Nat.le_of_eq rfl) (hb hby d10_11) (fun _ _ => ⟨rfl, e0, (by decide : 0 + 0 ≤ _), (by decide : 0 + 0 ≤ _)⟩))
  obtain ⟨rfl, N1q, Kq1, p1_0, p1_1, p1_2, p1_3, p1_4⟩ := hQ1
  have N1 := Nf1 N1q
  have f2 := P5.keep Kq1 (ninS (Ne.symm ne_a1_xa) nin0)
  have Z1 := Nat.le_trans Z0 Kq1.1
  have K1 : Keep h0 T1.heap [a1] := (Keep.refl h0 [a1]).trans Kq1 (allS (P := fun x => x ∈ [a1] ∨ h0.size ≤ x) (Or.inl (List.mem_of_getElem? (i := 0) rfl)) all0)
  refine own_tr st1 ?_
  refine own_xistore X1 hx hby d10_14 (l' := #[own_R a1, own_J 0, .second, own_I 0, own_I xv]) rfl ?_
  refine own_xlloadN X1 hx hby d10_16 rfl ?_
  refine own_xiload X1 hx hby d10_17 rfl ?_
  refine own_xbipush X1 hx hby d10_19 127 rfl ?_
  refine own_xiand X1 hx hby d10_21 ?_
  refine own_xi2l X1 hx hby d10_22 ?_
  refine own_xiloadN X1 hx hby d10_23 rfl ?_
  refine own_xlshl X1 hx hby d10_24 ?_
  refine own_xlor X1 hx hby d10_25 ?_
  refine own_xlstoreN X1 hx hby d10_26 (l' := #[own_R a1, own_J ((0 : Int64) ||| (((xv &&& (127 : Int32)).toInt64) <<< ((0 : Int32) &&& 0x3f).toInt64)), .second, own_I 0, own_I xv]) rfl ?_
  refine own_xiload X1 hx hby d10_27 rfl ?_
  refine own_xifNo X1 hx hby d10_29 ((if0 _ _).trans (flt (hnn : ¬ (xv < (0 : Int32)))).1) ?_
  refine own_xlloadN X1 hx hby d10_32 rfl ?_
  obtain ⟨fs, hr, hrun, hended, hW, hsame⟩ := X1.leave (v := some (.long ((0 : Int64) ||| (((xv &&& (127 : Int32)).toInt64) <<< ((0 : Int32) &&& 0x3f).toInt64)))) (fun h => by rw [Bd.returns] at h; cases h)
  refine ⟨_, X1.lreturnOut hx Bd.returns (hb hby d10_33) hr, fin _ _ _ hrun hended ?_ ⟨⟨_, rfl⟩, hW, hsame.mono (by decide) (by decide)⟩⟩
  show Q10 Z a1 xa xk ws kp xp xj xv xu h0 n0 _ T1.heap _
  exact ⟨(congrArg (fun z => some (Value.long z)) hxu), N1, K1, p1_0, p1_1, p1_2, p1_3, p1_4⟩
theorem d10_34 : decode oB10 34 = .ok (.iinc 3 7, 3) := by decide +kernel
theorem d10_37 : decode oB10 37 = .ok (.goto (-33), 3) := by decide +kernel
theorem ef_10d (m : MethodId) (x0 : Addr) : entryFrame m #[(.ref x0)] 5 = mkF m 0 #[own_R x0, .unset, .unset, .unset, .unset] [] := by first | (simp [entryFrame, mkF, argsToLocals, Value.category]; done) | rfl
def Q10d (Z : State) (a1 : Addr) (xa : Addr) (xk : ClassId) (ws : List Int32) (kp : Addr) (xp : Int32) (xj1 : Int32) (xj2 : Int32) (xj3 : Int32) (xv0 : Int32) (xv1 : Int32) (xv2 : Int32) (h0 : Heap) (n0 : Nat) (v : Option Value) (h : Heap) (L : List Loc) : Prop := ∃ (r : Int64), v = some (.long r) ∧ (0 ≤ r.toInt ∧ r.toInt < 2097152) ∧ Fr n0 L ∧ Keep h0 h [a1] ∧ (Exa Z h a1 own_cR) ∧ (Fld Z h a1 own_cR "bytes" "[B" (.ref xa)) ∧ (Fld Z h a1 own_cR "position" "I" (.int xj3)) ∧ (Fld Z h a1 own_cR "end" "I" (.int 24)) ∧ (Fld Z h a1 own_cR "kept" "Ljava/util/List;" (.ref kp))
theorem rm10d (l : Launch) (Z : State) (a0 : Array Value) (hw : ∀ d ∈ tables_1, d.before a0 Z = true) (ws_ : List Jvm.Cond) (a1 : Addr) (xa : Addr) (xk : ClassId) (ws : List Int32) (kp : Addr) (xp : Int32) (xj1 : Int32) (xj2 : Int32) (xj3 : Int32) (xv0 : Int32) (xv1 : Int32) (xv2 : Int32) (h0 : Heap) (n0 : Nat) (Z0 : n0 ≤ h0.size) (g_a1 : n0 ≤ a1) (ne_a1_xa : a1 ≠ xa) (P0 : Exa Z h0 a1 own_cR) (P1 : Fld Z h0 a1 own_cR "bytes" "[B" (.ref xa)) (P2 : Fld Z h0 a1 own_cR "position" "I" (.int xp)) (P3 : Fld Z h0 a1 own_cR "end" "I" (.int 24)) (P4 : Fld Z h0 a1 own_cR "kept" "Ljava/util/List;" (.ref kp)) (P5 : Arv Z h0 xa xk .byte (24 : Int32) (ws.map Value.int) (.int 0)) (hne0 : ¬ xp = (24 : Int32)) (hin0 : ¬ xp < 0 ∧ xp < (24 : Int32)) (hpj0 : (xp + (1 : Int32)) = xj1) (hv0 : nar .byte (ws.getD (xp).toNatClampNeg 0) = xv0) (hne1 : ¬ xj1 = (24 : Int32)) (hin1 : ¬ xj1 < 0 ∧ xj1 < (24 : Int32)) (hpj1 : (xj1 + (1 : Int32)) = xj2) (hv1 : nar .byte (ws.getD (xj1).toNatClampNeg 0) = xv1) (hne2 : ¬ xj2 = (24 : Int32)) (hin2 : ¬ xj2 < 0 ∧ xj2 < (24 : Int32)) (hpj2 : (xj2 + (1 : Int32)) = xj3) (hv2 : nar .byte (ws.getD (xj2).toNatClampNeg 0) = xv2) (hn0 : xv0 < (0 : Int32)) (hn1 : xv1 < (0 : Int32)) (hn2 : ¬ xv2 < (0 : Int32)) :
    own_Met l own_mt10 oB10 5 (some .long) ws_ ({ frames := 1, cells := 0, slots := 0, locals := 12 } : Room) #[(.ref a1)] Z h0 (Q10d Z a1 xa xk ws kp xp xj1 xj2 xj3 xv0 xv1 xv2 h0 n0) := by
  refine own_met n0 (plainFor_of_name pn_10) (fun m => ef_10d m a1) ?_
  intro p e s m below meth c s₁ Bd hZ hx hby hml hown' hnm X0 e0 N0 K fin
  have hown : s.vm.findClass own_cR = some m.cls := hown'
  show own_Go p e below K (s₁.setTop (mkF m 0 #[own_R a1, own_U, own_U, own_U, own_U] []))
  refine own_st (fun _ => XS.lconst X0.here hx rfl (hb hby d10_0)) ?_
  refine own_xlstoreN X0 hx hby d10_1 (l' := #[own_R a1, own_J 0, .second, own_U, own_U]) rfl ?_
  refine own_xiconst X0 hx hby d10_2 0 rfl ?_
  refine own_xistoreN X0 hx hby d10_3 (l' := #[own_R a1, own_J 0, .second, own_I 0, own_U]) rfl ?_
  refine own_xiloadN X0 hx hby d10_4 rfl ?_
  refine own_xbipush X0 hx hby d10_5 63 rfl ?_
  refine own_xicmpNo X0 hx hby d10_7 (tlt (by decide : (0 : Int32) < (63 : Int32))).2.1 ?_
  refine own_xaloadN X0 hx hby d10_10 rfl rfl ?_
  obtain ⟨cq1, qv1, qv1'⟩ := P0.cell
  obtain ⟨_, T1, L1, Lc1, X1, hQ1, Nf1, st1⟩ := own_back (cells := 0) (slots := 0) (rc := 0) (rs := 0) N0 (X0.privateBack hx (y := own_mt11) hown (mvT hZ (own_w hw 93 rfl)) (mvT hZ (own_w hw 94 rfl)) (own_selp hZ (own_w hw 40 rfl) (own_w hw 94 rfl) (own_w hw 95 rfl) (by decide)) (Cond.privateMethod_at (mvP hZ (own_w hw 95 rfl) (args := #[]))) (mvT hZ (own_w hw 96 rfl)) (by decide) (backOf (W := 0) (rm11 l Z a0 hw [] a1 (xa) (xk) (ws) (kp) (xp) (xj1) (xv0) h0 n0 Z0 g_a1 ne_a1_xa P0 P1 P2 P3 P4 P5 hne0 hin0 hpj0 hv0) hZ (own_w hw 96 rfl) (own_w hw 41 rfl) (by decide) (by decide)) (g := (mkF m 11 #[own_R a1, own_J 0, .second, own_I 0, own_U] [(.ref a1)])) rfl (by rw [hml]; rfl) (Steps.refl _) (a := a1) (own_hat e0 qv1) qv1' (argsL := []) (rest := []) (lenOf pd_10_6 rfl) rfl (by show 2 * 0 + _ ≤ _; exact Nat.le_of_eq rfl) (hb hby d10_11) (fun _ _ => ⟨rfl, e0, (by decide : 0 + 0 ≤ _), (by decide : 0 + 0 ≤ _)⟩))
  obtain ⟨rfl, N1q, Kq1, p1_0, p1_1, p1_2, p1_3, p1_4⟩ := hQ1
  have N1 := Nf1 N1q
  have f2 := P5.keep Kq1 (ninS (Ne.symm ne_a1_xa) nin0)
  have Z1 := Nat.le_trans Z0 Kq1.1
  have K1 : Keep h0 T1.heap [a1] := (Keep.refl h0 [a1]).trans Kq1 (allS (P := fun x => x ∈ [a1] ∨ h0.size ≤ x) (Or.inl (List.mem_of_getElem? (i := 0) rfl)) all0)
  refine own_tr st1 ?_
  refine own_xistore X1 hx hby d10_14 (l' := #[own_R a1, own_J 0, .second, own_I 0, own_I xv0]) rfl ?_
  refine own_xlloadN X1 hx hby d10_16 rfl ?_
  refine own_xiload X1 hx hby d10_17 rfl ?_
  refine own_xbipush X1 hx hby d10_19 127 rfl ?_
  refine own_xiand X1 hx hby d10_21 ?_
  refine own_xi2l X1 hx hby d10_22 ?_
  refine own_xiloadN X1 hx hby d10_23 rfl ?_
  refine own_xlshl X1 hx hby d10_24 ?_
  refine own_xlor X1 hx hby d10_25 ?_
  refine own_xlstoreN X1 hx hby d10_26 (l' := #[own_R a1, own_J ((0 : Int64) ||| (((xv0 &&& (127 : Int32)).toInt64) <<< ((0 : Int32) &&& 0x3f).toInt64)), .second, own_I 0, own_I xv0]) rfl ?_
  refine own_xiload X1 hx hby d10_27 rfl ?_
  refine own_xifYes X1 hx hby d10_29 (pc0 := 29) (pc' := 34) ((if0 _ _).trans (tlt (hn0 : xv0 < (0 : Int32))).1) rfl (by decide) (by decide) ?_
  refine own_xiinc X1 hx hby d10_34 rfl (l' := #[own_R a1, own_J ((0 : Int64) ||| (((xv0 &&& (127 : Int32)).toInt64) <<< ((0 : Int32) &&& 0x3f).toInt64)), .second, own_I 7, own_I xv0]) rfl ?_
  refine own_xgoto X1 hx hby d10_37 (pc0 := 37) (pc' := 4) rfl (by decide) (by decide) ?_
  refine own_xiloadN X1 hx hby d10_4 rfl ?_
  refine own_xbipush X1 hx hby d10_5 63 rfl ?_
  refine own_xicmpNo X1 hx hby d10_7 (tlt (by decide : (7 : Int32) < (63 : Int32))).2.1 ?_
  refine own_xaloadN X1 hx hby d10_10 rfl rfl ?_
  obtain ⟨cq3, qv3, qv3'⟩ := p1_0.cell
  obtain ⟨_, T3, L3, Lc3, X3, hQ3, Nf3, st3⟩ := own_back (cells := 0) (slots := 0) (rc := 0) (rs := 0) N1 (X1.privateBack hx (y := own_mt11) hown (mvT hZ (own_w hw 93 rfl)) (mvT hZ (own_w hw 94 rfl)) (own_selp hZ (own_w hw 40 rfl) (own_w hw 94 rfl) (own_w hw 95 rfl) (by decide)) (Cond.privateMethod_at (mvP hZ (own_w hw 95 rfl) (args := #[]))) (mvT hZ (own_w hw 96 rfl)) (by decide) (backOf (W := 0) (rm11 l Z a0 hw [] a1 (xa) (xk) (ws) (kp) (xj1) (xj2) (xv1) T1.heap n0 Z1 g_a1 ne_a1_xa p1_0 p1_1 p1_2 p1_3 p1_4 f2 hne1 hin1 hpj1 hv1) hZ (own_w hw 96 rfl) (own_w hw 41 rfl) (by decide) (by decide)) (g := (mkF m 11 #[own_R a1, own_J ((0 : Int64) ||| (((xv0 &&& (127 : Int32)).toInt64) <<< ((0 : Int32) &&& 0x3f).toInt64)), .second, own_I 7, own_I xv0] [(.ref a1)])) rfl (by rw [hml]; rfl) (Steps.refl _) (a := a1) (own_hat rfl qv3) qv3' (argsL := []) (rest := []) (lenOf pd_10_6 rfl) rfl (by show 2 * 0 + _ ≤ _; exact Nat.le_of_eq rfl) (hb hby d10_11) (fun _ _ => ⟨rfl, rfl, (by decide : 0 + 0 ≤ _), (by decide : 0 + 0 ≤ _)⟩))
  obtain ⟨rfl, N3q, Kq3, p3_0, p3_1, p3_2, p3_3, p3_4⟩ := hQ3
  have N3 := Nf3 N3q
  have f4 := f2.keep Kq3 (ninS (Ne.symm ne_a1_xa) nin0)
  have Z3 := Nat.le_trans Z1 Kq3.1
  have K3 := K1.trans Kq3 (allS (P := fun x => x ∈ [a1] ∨ h0.size ≤ x) (Or.inl (List.mem_of_getElem? (i := 0) rfl)) all0)
  refine own_tr st3 ?_
  refine own_xistore X3 hx hby d10_14 (l' := #[own_R a1, own_J ((0 : Int64) ||| (((xv0 &&& (127 : Int32)).toInt64) <<< ((0 : Int32) &&& 0x3f).toInt64)), .second, own_I 7, own_I xv1]) rfl ?_
  refine own_xlloadN X3 hx hby d10_16 rfl ?_
  show own_Go p e below K (T3.setTop (mkF m 17 #[own_R a1, own_J ((0 : Int64) ||| (((xv0 &&& (127 : Int32)).toInt64) <<< ((0 : Int32) &&& 0x3f).toInt64)), .second, own_I 7, own_I xv1] [(.long ((0 : Int64) ||| (((xv0 &&& (127 : Int32)).toInt64) <<< ((0 : Int32) &&& 0x3f).toInt64)))]))
  refine own_xiload X3 hx hby d10_17 rfl ?_
  refine own_xbipush X3 hx hby d10_19 127 rfl ?_
  refine own_xiand X3 hx hby d10_21 ?_
  refine own_xi2l X3 hx hby d10_22 ?_
  refine own_xiloadN X3 hx hby d10_23 rfl ?_
  refine own_xlshl X3 hx hby d10_24 ?_
  refine own_xlor X3 hx hby d10_25 ?_
  refine own_xlstoreN X3 hx hby d10_26 (l' := #[own_R a1, own_J (((0 : Int64) ||| (((xv0 &&& (127 : Int32)).toInt64) <<< ((0 : Int32) &&& 0x3f).toInt64)) ||| (((xv1 &&& (127 : Int32)).toInt64) <<< ((7 : Int32) &&& 0x3f).toInt64)), .second, own_I 7, own_I xv1]) rfl ?_
  refine own_xiload X3 hx hby d10_27 rfl ?_
  refine own_xifYes X3 hx hby d10_29 (pc0 := 29) (pc' := 34) ((if0 _ _).trans (tlt (hn1 : xv1 < (0 : Int32))).1) rfl (by decide) (by decide) ?_
  refine own_xiinc X3 hx hby d10_34 rfl (l' := #[own_R a1, own_J (((0 : Int64) ||| (((xv0 &&& (127 : Int32)).toInt64) <<< ((0 : Int32) &&& 0x3f).toInt64)) ||| (((xv1 &&& (127 : Int32)).toInt64) <<< ((7 : Int32) &&& 0x3f).toInt64)), .second, own_I 14, own_I xv1]) rfl ?_
  refine own_xgoto X3 hx hby d10_37 (pc0 := 37) (pc' := 4) rfl (by decide) (by decide) ?_
  refine own_xiloadN X3 hx hby d10_4 rfl ?_
  refine own_xbipush X3 hx hby d10_5 63 rfl ?_
  refine own_xicmpNo X3 hx hby d10_7 (tlt (by decide : (14 : Int32) < (63 : Int32))).2.1 ?_
  refine own_xaloadN X3 hx hby d10_10 rfl rfl ?_
  obtain ⟨cq5, qv5, qv5'⟩ := p3_0.cell
  obtain ⟨_, T5, L5, Lc5, X5, hQ5, Nf5, st5⟩ := own_back (cells := 0) (slots := 0) (rc := 0) (rs := 0) N3 (X3.privateBack hx (y := own_mt11) hown (mvT hZ (own_w hw 93 rfl)) (mvT hZ (own_w hw 94 rfl)) (own_selp hZ (own_w hw 40 rfl) (own_w hw 94 rfl) (own_w hw 95 rfl) (by decide)) (Cond.privateMethod_at (mvP hZ (own_w hw 95 rfl) (args := #[]))) (mvT hZ (own_w hw 96 rfl)) (by decide) (backOf (W := 0) (rm11 l Z a0 hw [] a1 (xa) (xk) (ws) (kp) (xj2) (xj3) (xv2) T3.heap n0 Z3 g_a1 ne_a1_xa p3_0 p3_1 p3_2 p3_3 p3_4 f4 hne2 hin2 hpj2 hv2) hZ (own_w hw 96 rfl) (own_w hw 41 rfl) (by decide) (by decide)) (g := (mkF m 11 #[own_R a1, own_J (((0 : Int64) ||| (((xv0 &&& (127 : Int32)).toInt64) <<< ((0 : Int32) &&& 0x3f).toInt64)) ||| (((xv1 &&& (127 : Int32)).toInt64) <<< ((7 : Int32) &&& 0x3f).toInt64)), .second, own_I 14, own_I xv1] [(.ref a1)])) rfl (by rw [hml]; rfl) (Steps.refl _) (a := a1) (own_hat rfl qv5) qv5' (argsL := []) (rest := []) (lenOf pd_10_6 rfl) rfl (by show 2 * 0 + _ ≤ _; exact Nat.le_of_eq rfl) (hb hby d10_11) (fun _ _ => ⟨rfl, rfl, (by decide : 0 + 0 ≤ _), (by decide : 0 + 0 ≤ _)⟩))
  obtain ⟨rfl, N5q, Kq5, p5_0, p5_1, p5_2, p5_3, p5_4⟩ := hQ5
  have N5 := Nf5 N5q
  have f6 := f4.keep Kq5 (ninS (Ne.symm ne_a1_xa) nin0)
  have Z5 := Nat.le_trans Z3 Kq5.1
  have K5 := K3.trans Kq5 (allS (P := fun x => x ∈ [a1] ∨ h0.size ≤ x) (Or.inl (List.mem_of_getElem? (i := 0) rfl)) all0)
  refine own_tr st5 ?_
  refine own_xistore X5 hx hby d10_14 (l' := #[own_R a1, own_J (((0 : Int64) ||| (((xv0 &&& (127 : Int32)).toInt64) <<< ((0 : Int32) &&& 0x3f).toInt64)) ||| (((xv1 &&& (127 : Int32)).toInt64) <<< ((7 : Int32) &&& 0x3f).toInt64)), .second, own_I 14, own_I xv2]) rfl ?_
  refine own_xlloadN X5 hx hby d10_16 rfl ?_
  refine own_xiload X5 hx hby d10_17 rfl ?_
  refine own_xbipush X5 hx hby d10_19 127 rfl ?_
  refine own_xiand X5 hx hby d10_21 ?_
  refine own_xi2l X5 hx hby d10_22 ?_
  refine own_xiloadN X5 hx hby d10_23 rfl ?_
  refine own_xlshl X5 hx hby d10_24 ?_
  refine own_xlor X5 hx hby d10_25 ?_
  refine own_xlstoreN X5 hx hby d10_26 (l' := #[own_R a1, own_J ((((0 : Int64) ||| (((xv0 &&& (127 : Int32)).toInt64) <<< ((0 : Int32) &&& 0x3f).toInt64)) ||| (((xv1 &&& (127 : Int32)).toInt64) <<< ((7 : Int32) &&& 0x3f).toInt64)) ||| (((xv2 &&& (127 : Int32)).toInt64) <<< ((14 : Int32) &&& 0x3f).toInt64)), .second, own_I 14, own_I xv2]) rfl ?_
  refine own_xiload X5 hx hby d10_27 rfl ?_
  refine own_xifNo X5 hx hby d10_29 ((if0 _ _).trans (flt (hn2 : ¬ (xv2 < (0 : Int32)))).1) ?_
  refine own_xlloadN X5 hx hby d10_32 rfl ?_
  show own_Go p e below K (T5.setTop (mkF m 33 #[own_R a1, own_J ((((0 : Int64) ||| (((xv0 &&& (127 : Int32)).toInt64) <<< ((0 : Int32) &&& 0x3f).toInt64)) ||| (((xv1 &&& (127 : Int32)).toInt64) <<< ((7 : Int32) &&& 0x3f).toInt64)) ||| (((xv2 &&& (127 : Int32)).toInt64) <<< ((14 : Int32) &&& 0x3f).toInt64)), .second, own_I 14, own_I xv2] [(.long ((((0 : Int64) ||| (((xv0 &&& (127 : Int32)).toInt64) <<< ((0 : Int32) &&& 0x3f).toInt64)) ||| (((xv1 &&& (127 : Int32)).toInt64) <<< ((7 : Int32) &&& 0x3f).toInt64)) ||| (((xv2 &&& (127 : Int32)).toInt64) <<< ((14 : Int32) &&& 0x3f).toInt64)))]))
  obtain ⟨fs, hr, hrun, hended, hW, hsame⟩ := X5.leave (v := some (.long ((((0 : Int64) ||| (((xv0 &&& (127 : Int32)).toInt64) <<< ((0 : Int32) &&& 0x3f).toInt64)) ||| (((xv1 &&& (127 : Int32)).toInt64) <<< ((7 : Int32) &&& 0x3f).toInt64)) ||| (((xv2 &&& (127 : Int32)).toInt64) <<< ((14 : Int32) &&& 0x3f).toInt64)))) (fun h => by rw [Bd.returns] at h; cases h)
  refine ⟨_, X5.lreturnOut hx Bd.returns (hb hby d10_33) hr, fin _ _ _ hrun hended ?_ ⟨⟨_, rfl⟩, hW, hsame.mono (by decide) (by decide)⟩⟩
  show Q10d Z a1 xa xk ws kp xp xj1 xj2 xj3 xv0 xv1 xv2 h0 n0 _ T5.heap _
  exact ⟨_, rfl, (own_num3 xv0 xv1 xv2), N5, K5, p5_0, p5_1, p5_2, p5_3, p5_4⟩
theorem d9_0 : decode oB9 0 = .ok (.aload_n 0, 1) := by decide +kernel
theorem d9_1 : decode oB9 1 = .ok (.invokevirtual 40, 3) := by decide +kernel
theorem d9_4 : decode oB9 4 = .ok (.lstore_n 1, 1) := by decide +kernel
theorem d9_5 : decode oB9 5 = .ok (.lload_n 1, 1) := by decide +kernel
theorem d9_6 : decode oB9 6 = .ok (.ldc2_w 46, 3) := by decide +kernel
theorem d9_9 : decode oB9 9 = .ok (.lcmp, 1) := by decide +kernel
theorem d9_10 : decode oB9 10 = .ok (.ifCond .le 17, 3) := by decide +kernel
theorem d9_27 : decode oB9 27 = .ok (.lload_n 1, 1) := by decide +kernel
theorem d9_28 : decode oB9 28 = .ok (.l2i, 1) := by decide +kernel
theorem d9_29 : decode oB9 29 = .ok (.ireturn, 1) := by decide +kernel
theorem pn_9 : plainName own_cR = true := by first | (simp [plainName, overriddenIn]; done) | decide +kernel
theorem pd_9_5 : parseMethodDescriptor "()J" = some ⟨[], some .long⟩ := by decide +kernel
theorem ef_9 (m : MethodId) (x0 : Addr) : entryFrame m #[(.ref x0)] 3 = mkF m 0 #[own_R x0, .unset, .unset] [] := by first | (simp [entryFrame, mkF, argsToLocals, Value.category]; done) | rfl
def Q9 (Z : State) (a1 : Addr) (xa : Addr) (xk : ClassId) (ws : List Int32) (kp : Addr) (xp : Int32) (xj : Int32) (xv : Int32) (xu : Int64) (xc : Int32) (h0 : Heap) (n0 : Nat) (v : Option Value) (h : Heap) (L : List Loc) : Prop := v = some (.int xc) ∧ Fr n0 L ∧ Keep h0 h [a1] ∧ (Exa Z h a1 own_cR) ∧ (Fld Z h a1 own_cR "bytes" "[B" (.ref xa)) ∧ (Fld Z h a1 own_cR "position" "I" (.int xj)) ∧ (Fld Z h a1 own_cR "end" "I" (.int 24)) ∧ (Fld Z h a1 own_cR "kept" "Ljava/util/List;" (.ref kp))
theorem rm9 (l : Launch) (Z : State) (a0 : Array Value) (hw : ∀ d ∈ tables_1, d.before a0 Z = true) (ws_ : List Jvm.Cond) (a1 : Addr) (xa : Addr) (xk : ClassId) (ws : List Int32) (kp : Addr) (xp : Int32) (xj : Int32) (xv : Int32) (xu : Int64) (xc : Int32) (h0 : Heap) (n0 : Nat) (Z0 : n0 ≤ h0.size) (g_a1 : n0 ≤ a1) (ne_a1_xa : a1 ≠ xa) (P0 : Exa Z h0 a1 own_cR) (P1 : Fld Z h0 a1 own_cR "bytes" "[B" (.ref xa)) (P2 : Fld Z h0 a1 own_cR "position" "I" (.int xp)) (P3 : Fld Z h0 a1 own_cR "end" "I" (.int 24)) (P4 : Fld Z h0 a1 own_cR "kept" "Ljava/util/List;" (.ref kp)) (P5 : Arv Z h0 xa xk .byte (24 : Int32) (ws.map Value.int) (.int 0)) (hne : ¬ xp = (24 : Int32)) (hin : ¬ xp < 0 ∧ xp < (24 : Int32)) (hpj : (xp + (1 : Int32)) = xj) (hv : nar .byte (ws.getD (xp).toNatClampNeg 0) = xv) (hnn : ¬ xv < (0 : Int32)) (hxu : ((0 : Int64) ||| (((xv &&& (127 : Int32)).toInt64) <<< ((0 : Int32) &&& 0x3f).toInt64)) = xu) (hle : ¬ (2147483647 : Int64) < xu) (hxc : xu.toInt32 = xc) :
    own_Met l own_mt9 oB9 3 (some .int) ws_ ({ frames := 2, cells := 0, slots := 0, locals := 28 } : Room) #[(.ref a1)] Z h0 (Q9 Z a1 xa xk ws kp xp xj xv xu xc h0 n0) := by
  refine own_met n0 (plainFor_of_name pn_9) (fun m => ef_9 m a1) ?_
  intro p e s m below meth c s₁ Bd hZ hx hby hml hown' hnm X0 e0 N0 K fin
  have hown : s.vm.findClass own_cR = some m.cls := hown'
  show own_Go p e below K (s₁.setTop (mkF m 0 #[own_R a1, own_U, own_U] []))
  refine own_xaloadN X0 hx hby d9_0 rfl rfl ?_
  obtain ⟨cq1, kq1, qv1a, qv1b, qv1c⟩ := isOf hZ e0 P0
  obtain ⟨_, T1, L1, Lc1, X1, hQ1, Nf1, st1⟩ := own_back (cells := 0) (slots := 0) (rc := 0) (rs := 0) N0 (X0.virtualBack hx (y := own_mt10) (z := own_mt10) hown (mvT hZ (own_w hw 88 rfl)) (mvT hZ (own_w hw 89 rfl)) (notFace_of_selects (args := #[]) (mvT hZ (own_w hw 91 rfl))) (mvT hZ (own_w hw 91 rfl)) (mvT hZ (own_w hw 90 rfl)) (by decide) (backOf (W := 0) (rm10 l Z a0 hw [] a1 (xa) (xk) (ws) (kp) (xp) (xj) (xv) (xu) h0 n0 Z0 g_a1 ne_a1_xa P0 P1 P2 P3 P4 P5 (by assumption) (by assumption) (by assumption) (by assumption) (by assumption) (by assumption)) hZ (own_w hw 92 rfl) (own_w hw 41 rfl) (by decide) (by decide)) qv1a qv1c (g := (mkF m 1 #[own_R a1, own_U, own_U] [(.ref a1)])) rfl (by rw [hml]; rfl) (Steps.refl _) (argsL := []) (rest := []) (lenOf pd_9_5 rfl) rfl (by show 2 * 0 + _ ≤ _; exact Nat.le_of_eq rfl) (hb hby d9_1) (fun _ _ => ⟨rfl, e0, (by decide : 0 + 0 ≤ _), (by decide : 0 + 0 ≤ _)⟩))
  obtain ⟨rfl, N1q, Kq1, p1_0, p1_1, p1_2, p1_3, p1_4⟩ := hQ1
  have N1 := Nf1 N1q
  have f2 := P5.keep Kq1 (ninS (Ne.symm ne_a1_xa) nin0)
  have Z1 := Nat.le_trans Z0 Kq1.1
  have K1 : Keep h0 T1.heap [a1] := (Keep.refl h0 [a1]).trans Kq1 (allS (P := fun x => x ∈ [a1] ∨ h0.size ≤ x) (Or.inl (List.mem_of_getElem? (i := 0) rfl)) all0)
  refine own_tr st1 ?_
  refine own_xlstoreN X1 hx hby d9_4 (l' := #[own_R a1, own_J xu, .second]) rfl ?_
  refine own_xlloadN X1 hx hby d9_5 rfl ?_
  refine own_st (X1.ldc2Long hx hown (mvT hZ (own_w hw 97 rfl)) (g := (mkF m 6 #[own_R a1, own_J xu, .second] [(.long xu)])) rfl (hb hby d9_6)) ?_
  refine own_xlcmp X1 hx hby d9_9 ?_
  refine own_xifYes X1 hx hby d9_10 (pc0 := 10) (pc' := 27) ((if0 _ _).trans (flt (fun q => (hle : ¬ ((2147483647 : Int64) < xu)) ((lw_gt xu (2147483647 : Int64)).mp q))).2.2.2) rfl (by decide) (by decide) ?_
  refine own_xlloadN X1 hx hby d9_27 rfl ?_
  refine own_xl2i X1 hx hby d9_28 ?_
  obtain ⟨fs, hr, hrun, hended, hW, hsame⟩ := X1.leave (v := some (.int (xu.toInt32))) (fun h => by rw [Bd.returns] at h; cases h)
  refine ⟨_, retI X1 hx Bd.returns (hb hby d9_29) hr, fin _ _ _ hrun hended ?_ ⟨⟨_, rfl⟩, hW, hsame.mono (by decide) (by decide)⟩⟩
  show Q9 Z a1 xa xk ws kp xp xj xv xu xc h0 n0 _ T1.heap _
  exact ⟨(congrArg (fun z => some (Value.int z)) hxc), N1, K1, p1_0, p1_1, p1_2, p1_3, p1_4⟩
theorem d21_0 : decode oB21 0 = .ok (.lload_n 0, 1) := by decide +kernel
theorem d21_1 : decode oB21 1 = .ok (.iconst 1, 1) := by decide +kernel
theorem d21_2 : decode oB21 2 = .ok (.lushr, 1) := by decide +kernel
theorem d21_3 : decode oB21 3 = .ok (.lload_n 0, 1) := by decide +kernel
theorem d21_4 : decode oB21 4 = .ok (.lconst 1, 1) := by decide +kernel
theorem d21_5 : decode oB21 5 = .ok (.land, 1) := by decide +kernel
theorem d21_6 : decode oB21 6 = .ok (.lneg, 1) := by decide +kernel
theorem d21_7 : decode oB21 7 = .ok (.lxor, 1) := by decide +kernel
theorem d21_8 : decode oB21 8 = .ok (.lreturn, 1) := by decide +kernel
theorem pn_21 : plainName own_cK_ = true := by first | (simp [plainName, overriddenIn]; done) | decide +kernel
theorem ef_21 (m : MethodId) (x0 : Int64) : entryFrame m #[(.long x0)] 2 = mkF m 0 #[own_J x0, .second] [] := by first | (simp [entryFrame, mkF, argsToLocals, Value.category]; done) | rfl
def Q21 (Z : State) (p1 : Int64) (h0 : Heap) (n0 : Nat) (v : Option Value) (h : Heap) (L : List Loc) : Prop := ∃ (r : Int64), v = some (.long r) ∧ (-1048576 ≤ r.toInt ∧ r.toInt ≤ 1048575) ∧ Fr n0 L ∧ h = h0
theorem rm21 (l : Launch) (Z : State) (a0 : Array Value) (hw : ∀ d ∈ tables_1, d.before a0 Z = true) (ws_ : List Jvm.Cond) (p1 : Int64) (h0 : Heap) (n0 : Nat) (Z0 : n0 ≤ h0.size) (hb0 : 0 ≤ p1.toInt ∧ p1.toInt < 2097152) :
    own_Met l own_mt21 oB21 2 (some .long) ws_ ({ frames := 0, cells := 0, slots := 0, locals := 0 } : Room) #[(.long p1)] Z h0 (Q21 Z p1 h0 n0) := by
  refine own_met n0 (plainFor_of_name pn_21) (fun m => ef_21 m p1) ?_
  intro p e s m below meth c s₁ Bd hZ hx hby hml hown' hnm X0 e0 N0 K fin
  have hown : s.vm.findClass own_cK_ = some m.cls := hown'
  show own_Go p e below K (s₁.setTop (mkF m 0 #[own_J p1, .second] []))
  refine own_xlloadN X0 hx hby d21_0 rfl ?_
  refine own_xiconst X0 hx hby d21_1 1 rfl ?_
  refine own_xlushr X0 hx hby d21_2 ?_
  refine own_xlloadN X0 hx hby d21_3 rfl ?_
  refine own_st (fun _ => XS.lconst X0.here hx rfl (hb hby d21_4)) ?_
  refine own_xland X0 hx hby d21_5 ?_
  refine own_xlneg X0 hx hby d21_6 ?_
  refine own_xlxor X0 hx hby d21_7 ?_
  obtain ⟨fs, hr, hrun, hended, hW, hsame⟩ := X0.leave (v := some (.long (((p1.toUInt64 >>> ((1 : Int32) &&& 0x3f).toInt64.toUInt64).toInt64) ^^^ (-(p1 &&& (1 : Int64)))))) (fun h => by rw [Bd.returns] at h; cases h)
  refine ⟨_, X0.lreturnOut hx Bd.returns (hb hby d21_8) hr, fin _ _ _ hrun hended ?_ ⟨⟨_, rfl⟩, hW, hsame.mono (by decide) (by decide)⟩⟩
  show Q21 Z p1 h0 n0 _ s₁.heap _
  rw [e0]
  exact ⟨_, rfl, (own_uzz hb0), N0, rfl⟩
theorem d20_0 : decode oB20 0 = .ok (.aload_n 0, 1) := by decide +kernel
theorem d20_1 : decode oB20 1 = .ok (.invokevirtual 40, 3) := by decide +kernel
theorem d20_4 : decode oB20 4 = .ok (.invokestatic 102, 3) := by decide +kernel
theorem d20_7 : decode oB20 7 = .ok (.lstore_n 1, 1) := by decide +kernel
theorem d20_8 : decode oB20 8 = .ok (.lload_n 1, 1) := by decide +kernel
theorem d20_9 : decode oB20 9 = .ok (.getstatic 163, 3) := by decide +kernel
theorem d20_12 : decode oB20 12 = .ok (.invokevirtual 167, 3) := by decide +kernel
theorem d20_15 : decode oB20 15 = .ok (.lcmp, 1) := by decide +kernel
theorem d20_16 : decode oB20 16 = .ok (.ifCond .lt 14, 3) := by decide +kernel
theorem d20_19 : decode oB20 19 = .ok (.lload_n 1, 1) := by decide +kernel
theorem d20_20 : decode oB20 20 = .ok (.getstatic 170, 3) := by decide +kernel
theorem d20_23 : decode oB20 23 = .ok (.invokevirtual 167, 3) := by decide +kernel
theorem d20_26 : decode oB20 26 = .ok (.lcmp, 1) := by decide +kernel
theorem d20_27 : decode oB20 27 = .ok (.ifCond .le 17, 3) := by decide +kernel
theorem d20_44 : decode oB20 44 = .ok (.lload_n 1, 1) := by decide +kernel
theorem d20_45 : decode oB20 45 = .ok (.invokestatic 174, 3) := by decide +kernel
theorem d20_48 : decode oB20 48 = .ok (.areturn, 1) := by decide +kernel
theorem pn_20 : plainName own_cR = true := by first | (simp [plainName, overriddenIn]; done) | decide +kernel
theorem pd_20_5 : parseMethodDescriptor "()J" = some ⟨[], some .long⟩ := by decide +kernel
theorem pd_20_16 : parseMethodDescriptor "(J)J" = some ⟨[.long], some .long⟩ := by decide +kernel
theorem pd_20_18 : parseMethodDescriptor "(J)Ljava/time/LocalDate;" = some ⟨[.long], some (.object own_cD)⟩ := by decide +kernel
theorem ef_20 (m : MethodId) (x0 : Addr) : entryFrame m #[(.ref x0)] 3 = mkF m 0 #[own_R x0, .unset, .unset] [] := by first | (simp [entryFrame, mkF, argsToLocals, Value.category]; done) | rfl
def Q20 (Z : State) (a1 : Addr) (xx : Nat → Nat) (xa : Addr) (xk : ClassId) (ws : List Int32) (kp : Addr) (xp : Int32) (xj1 : Int32) (xj2 : Int32) (xj3 : Int32) (xv0 : Int32) (xv1 : Int32) (xv2 : Int32) (h0 : Heap) (n0 : Nat) (v : Option Value) (h : Heap) (L : List Loc) : Prop := ∃ (r : Addr) (yv : Int32) (mv : Int32) (dv : Int32), v = some (.ref r) ∧ (True) ∧ h0.size ≤ r ∧ Fr n0 L ∧ Keep h0 h [a1] ∧ (Exa Z h a1 own_cR) ∧ (Fld Z h a1 own_cR "bytes" "[B" (.ref xa)) ∧ (Fld Z h a1 own_cR "position" "I" (.int xj3)) ∧ (Fld Z h a1 own_cR "end" "I" (.int 24)) ∧ (Fld Z h a1 own_cR "kept" "Ljava/util/List;" (.ref kp)) ∧ (Exa Z h r own_cD) ∧ (Fld Z h r own_cD "year" "I" (.int yv)) ∧ (Fld Z h r own_cD "month" "S" (.int mv)) ∧ (Fld Z h r own_cD "day" "S" (.int dv))
theorem rm20 (l : Launch) (Z : State) (a0 : Array Value) (hw : ∀ d ∈ tables_1, d.before a0 Z = true) (ws_ : List Jvm.Cond) (a1 : Addr) (xx : Nat → Nat) (xa : Addr) (xk : ClassId) (ws : List Int32) (kp : Addr) (xp : Int32) (xj1 : Int32) (xj2 : Int32) (xj3 : Int32) (xv0 : Int32) (xv1 : Int32) (xv2 : Int32) (h0 : Heap) (n0 : Nat) (Z0 : n0 ≤ h0.size) (g_a1 : n0 ≤ a1) (ne_a1_xa : a1 ≠ xa) (P0 : Exa Z h0 a1 own_cR) (P1 : Fld Z h0 a1 own_cR "bytes" "[B" (.ref xa)) (P2 : Fld Z h0 a1 own_cR "position" "I" (.int xp)) (P3 : Fld Z h0 a1 own_cR "end" "I" (.int 24)) (P4 : Fld Z h0 a1 own_cR "kept" "Ljava/util/List;" (.ref kp)) (P5 : Arv Z h0 xa xk .byte (24 : Int32) (ws.map Value.int) (.int 0)) (P6 : Old Z n0 h0) (HP : own_P Z xx) (hne0 : ¬ xp = (24 : Int32)) (hin0 : ¬ xp < 0 ∧ xp < (24 : Int32)) (hpj0 : (xp + (1 : Int32)) = xj1) (hv0 : nar .byte (ws.getD (xp).toNatClampNeg 0) = xv0) (hne1 : ¬ xj1 = (24 : Int32)) (hin1 : ¬ xj1 < 0 ∧ xj1 < (24 : Int32)) (hpj1 : (xj1 + (1 : Int32)) = xj2) (hv1 : nar .byte (ws.getD (xj1).toNatClampNeg 0) = xv1) (hne2 : ¬ xj2 = (24 : Int32)) (hin2 : ¬ xj2 < 0 ∧ xj2 < (24 : Int32)) (hpj2 : (xj2 + (1 : Int32)) = xj3) (hv2 : nar .byte (ws.getD (xj2).toNatClampNeg 0) = xv2) (hn0 : xv0 < (0 : Int32)) (hn1 : xv1 < (0 : Int32)) (hn2 : ¬ xv2 < (0 : Int32)) :
    own_Met l own_mt20 oB20 3 (some (.object own_cD)) ws_ ({ frames := 5, cells := 1, slots := 3, locals := 82 } : Room) #[(.ref a1)] Z h0 (Q20 Z a1 xx xa xk ws kp xp xj1 xj2 xj3 xv0 xv1 xv2 h0 n0) := by
  refine own_met n0 (plainFor_of_name pn_20) (fun m => ef_20 m a1) ?_
  intro p e s m below meth c s₁ Bd hZ hx hby hml hown' hnm X0 e0 N0 K fin
  have hown : s.vm.findClass own_cR = some m.cls := hown'
  show own_Go p e below K (s₁.setTop (mkF m 0 #[own_R a1, own_U, own_U] []))
  refine own_xaloadN X0 hx hby d20_0 rfl rfl ?_
  obtain ⟨cq1, kq1, qv1a, qv1b, qv1c⟩ := isOf hZ e0 P0
  obtain ⟨_, T1, L1, Lc1, X1, hQ1, Nf1, st1⟩ := own_back (cells := 0) (slots := 0) (rc := 0) (rs := 0) N0 (X0.virtualBack hx (y := own_mt10) (z := own_mt10) hown (mvT hZ (own_w hw 88 rfl)) (mvT hZ (own_w hw 89 rfl)) (notFace_of_selects (args := #[]) (mvT hZ (own_w hw 91 rfl))) (mvT hZ (own_w hw 91 rfl)) (mvT hZ (own_w hw 90 rfl)) (by decide) (backOf (W := 0) (rm10d l Z a0 hw [] a1 (xa) (xk) (ws) (kp) (xp) (xj1) (xj2) (xj3) (xv0) (xv1) (xv2) h0 n0 Z0 g_a1 ne_a1_xa P0 P1 P2 P3 P4 P5 (by assumption) (by assumption) (by assumption) (by assumption) (by assumption) (by assumption) (by assumption) (by assumption) (by assumption) (by assumption) (by assumption) (by assumption) (by assumption) (by assumption) (by assumption)) hZ (own_w hw 92 rfl) (own_w hw 41 rfl) (by decide) (by decide)) qv1a qv1c (g := (mkF m 1 #[own_R a1, own_U, own_U] [(.ref a1)])) rfl (by rw [hml]; rfl) (Steps.refl _) (argsL := []) (rest := []) (lenOf pd_20_5 rfl) rfl (by show 2 * 0 + _ ≤ _; exact Nat.le_of_eq rfl) (hb hby d20_1) (fun _ _ => ⟨rfl, e0, (by decide : 0 + 0 ≤ _), (by decide : 0 + 0 ≤ _)⟩))
  obtain ⟨r1, rfl, hr1, N1q, Kq1, p1_0, p1_1, p1_2, p1_3, p1_4⟩ := hQ1
  have N1 := Nf1 N1q
  have f2 := P5.keep Kq1 (ninS (Ne.symm ne_a1_xa) nin0)
  have f3 := P6.keep Kq1 (allS (P := fun x => n0 ≤ x) g_a1 all0)
  have Z1 := Nat.le_trans Z0 Kq1.1
  have K1 : Keep h0 T1.heap [a1] := (Keep.refl h0 [a1]).trans Kq1 (allS (P := fun x => x ∈ [a1] ∨ h0.size ≤ x) (Or.inl (List.mem_of_getElem? (i := 0) rfl)) all0)
  refine own_tr st1 ?_
  obtain ⟨_, T4, L4, Lc4, X4, hQ4, Nf4, st4⟩ := own_back (cells := 0) (slots := 0) (rc := 0) (rs := 0) N1 (callSN X1 hx (y := own_mt21) hown (own_mvM hZ (own_w hw 172 rfl)) (mvT hZ (own_w hw 173 rfl)) (mvT hZ (own_w hw 174 rfl)) (mvT hZ (own_w hw 175 rfl)) (by decide) (backOf (W := 0) (rm21 l Z a0 hw [] r1 T1.heap n0 Z1 hr1) hZ (own_w hw 175 rfl) (own_w hw 174 rfl) (by decide) (by decide)) (g := (mkF m 4 #[own_R a1, own_U, own_U] [(.long r1)])) rfl (by rw [hml]; rfl) (argsL := [(.long r1)]) (rest := []) (lenOf pd_20_16 rfl) rfl (by show 2 * 0 + _ ≤ _; exact Nat.le_of_eq rfl) (hb hby d20_4) (fun _ _ => ⟨rfl, rfl, (by decide : 0 + 0 ≤ _), (by decide : 0 + 0 ≤ _)⟩))
  obtain ⟨r4, rfl, hr4, N4q, e4⟩ := hQ4
  have N4 := Nf4 N4q
  refine own_tr st4 ?_
  refine own_xlstoreN X4 hx hby d20_7 (l' := #[own_R a1, own_J r4, .second]) rfl ?_
  refine own_xlloadN X4 hx hby d20_8 rfl ?_
  obtain ⟨T5, X5, e5, st5⟩ := getS2 X4 hx hZ hown (host := "") (Or.inl (own_w hw 176 rfl)) Via.refl e4 (HP.2.2.2.2.2.2.1.ext f3.2) (g := (mkF m 9 #[own_R a1, own_J r4, .second] [(.long r4)])) rfl (hb hby d20_9)
  refine own_st st5 ?_
  have q6 : Exa Z T1.heap (xx 6) own_cD := HP.2.2.2.2.2.2.2.1.ext f3.2
  have q7 : Fld Z T1.heap (xx 6) own_cD "year" "I" (.int (-999999999)) := HP.2.2.2.2.2.2.2.2.1.ext f3.2
  have q8 : Fld Z T1.heap (xx 6) own_cD "month" "S" (.int 1) := HP.2.2.2.2.2.2.2.2.2.1.ext f3.2
  have q9 : Fld Z T1.heap (xx 6) own_cD "day" "S" (.int 1) := HP.2.2.2.2.2.2.2.2.2.2.1.ext f3.2
  obtain ⟨cq10, kq10, qv10a, qv10b, qv10c⟩ := isOf hZ e5 q6
  obtain ⟨_, T10, L10, Lc10, X10, hQ10, Nf10, st10⟩ := own_back (cells := 0) (slots := 0) (rc := 0) (rs := 0) N4 (X5.virtualBack hx (y := own_mt22) (z := own_mt22) hown (mvT hZ (own_w hw 178 rfl)) (mvT hZ (own_w hw 179 rfl)) (notFace_of_selects (args := #[]) (mvT hZ (own_w hw 181 rfl))) (mvT hZ (own_w hw 181 rfl)) (mvT hZ (own_w hw 180 rfl)) (by decide) (backOf (W := 2) (rm22 l Z a0 hw [] (xx 6) xx ((-999999999 : Int32)) ((1 : Int32)) ((1 : Int32)) T1.heap n0 Z1 q6 q7 q8 q9 f3 (by assumption)) hZ (own_w hw 182 rfl) (own_w hw 177 rfl) (by decide) (by decide)) qv10a qv10c (g := (mkF m 12 #[own_R a1, own_J r4, .second] [(.ref (xx 6)), (.long r4)])) rfl (by rw [hml]; rfl) (Steps.refl _) (argsL := []) (rest := [(.long r4)]) (lenOf pd_20_5 rfl) rfl (by show 2 * 0 + _ ≤ _; exact Nat.le_of_eq rfl) (hb hby d20_12) (fun _ _ => ⟨rfl, e5, (by decide : 0 + 0 ≤ _), (by decide : 0 + 0 ≤ _)⟩))
  obtain ⟨r10, rfl, hr10, N10q, e10⟩ := hQ10
  have N10 := Nf10 N10q
  refine own_tr st10 ?_
  refine own_xlcmp X10 hx hby d20_15 ?_
  refine own_xifNo X10 hx hby d20_16 ((if0 _ _).trans (flt (fun q => (own_lo hr4 (hr10.trans own_tmin) : ¬ (r4 < r10)) ((lw_lt r4 r10).mp q))).1) ?_
  refine own_xlloadN X10 hx hby d20_19 rfl ?_
  obtain ⟨T11, X11, e11, st11⟩ := getS2 X10 hx hZ hown (host := "") (Or.inl (own_w hw 198 rfl)) Via.refl e10 (HP.2.2.2.2.2.2.2.2.2.2.2.1.ext f3.2) (g := (mkF m 20 #[own_R a1, own_J r4, .second] [(.long r4)])) rfl (hb hby d20_20)
  refine own_st st11 ?_
  have q12 : Exa Z T1.heap (xx 7) own_cD := HP.2.2.2.2.2.2.2.2.2.2.2.2.1.ext f3.2
  have q13 : Fld Z T1.heap (xx 7) own_cD "year" "I" (.int 999999999) := HP.2.2.2.2.2.2.2.2.2.2.2.2.2.1.ext f3.2
  have q14 : Fld Z T1.heap (xx 7) own_cD "month" "S" (.int 12) := HP.2.2.2.2.2.2.2.2.2.2.2.2.2.2.1.ext f3.2
  have q15 : Fld Z T1.heap (xx 7) own_cD "day" "S" (.int 31) := HP.2.2.2.2.2.2.2.2.2.2.2.2.2.2.2.1.ext f3.2
  obtain ⟨cq16, kq16, qv16a, qv16b, qv16c⟩ := isOf hZ e11 q12
  obtain ⟨_, T16, L16, Lc16, X16, hQ16, Nf16, st16⟩ := own_back (cells := 0) (slots := 0) (rc := 0) (rs := 0) N10 (X11.virtualBack hx (y := own_mt22) (z := own_mt22) hown (mvT hZ (own_w hw 178 rfl)) (mvT hZ (own_w hw 179 rfl)) (notFace_of_selects (args := #[]) (mvT hZ (own_w hw 181 rfl))) (mvT hZ (own_w hw 181 rfl)) (mvT hZ (own_w hw 180 rfl)) (by decide) (backOf (W := 2) (rm22 l Z a0 hw [] (xx 7) xx ((999999999 : Int32)) ((12 : Int32)) ((31 : Int32)) T1.heap n0 Z1 q12 q13 q14 q15 f3 (by assumption)) hZ (own_w hw 182 rfl) (own_w hw 177 rfl) (by decide) (by decide)) qv16a qv16c (g := (mkF m 23 #[own_R a1, own_J r4, .second] [(.ref (xx 7)), (.long r4)])) rfl (by rw [hml]; rfl) (Steps.refl _) (argsL := []) (rest := [(.long r4)]) (lenOf pd_20_5 rfl) rfl (by show 2 * 0 + _ ≤ _; exact Nat.le_of_eq rfl) (hb hby d20_23) (fun _ _ => ⟨rfl, e11, (by decide : 0 + 0 ≤ _), (by decide : 0 + 0 ≤ _)⟩))
  obtain ⟨r16, rfl, hr16, N16q, e16⟩ := hQ16
  have N16 := Nf16 N16q
  refine own_tr st16 ?_
  refine own_xlcmp X16 hx hby d20_26 ?_
  refine own_xifYes X16 hx hby d20_27 (pc0 := 27) (pc' := 44) ((if0 _ _).trans (flt (fun q => (own_hi hr4 (hr16.trans own_tmax) : ¬ (r16 < r4)) ((lw_gt r4 r16).mp q))).2.2.2) rfl (by decide) (by decide) ?_
  refine own_xlloadN X16 hx hby d20_44 rfl ?_
  obtain ⟨_, T17, L17, Lc17, X17, hQ17, Nf17, st17⟩ := own_backS (cells := 0) (slots := 0) (rc := 1) (rs := 3) N16 (Jvm.LawKit.callS X16 hx (y := own_mt25) hown (mvT hZ (own_w hw 218 rfl)) (mvT hZ (own_w hw 219 rfl)) (mvT hZ (own_w hw 177 rfl)) (mvT hZ (own_w hw 220 rfl)) (by decide) (backOf (W := 0) (rm25 l Z a0 hw [] r4 xx T1.heap n0 Z1 f3 (by assumption) (own_lo hr4 rfl) (own_hi hr4 rfl)) hZ (own_w hw 220 rfl) (own_w hw 177 rfl) (by decide) (by decide)) (g := (mkF m 45 #[own_R a1, own_J r4, .second] [(.long r4)])) rfl (by rw [hml]; rfl) (argsL := [(.long r4)]) (rest := []) (lenOf pd_20_18 rfl) rfl (by show 2 * 0 + _ ≤ _; exact Nat.le_of_eq rfl) (hb hby d20_45) (fun _ _ => ⟨rfl, e16, (by decide : 0 + 1 ≤ _), (by decide : 0 + 3 ≤ _)⟩))
  obtain ⟨r17, yv_17, mv_17, dv_17, rfl, hr17, fr17, N17q, Kq17, p17_0, p17_1, p17_2, p17_3⟩ := hQ17
  have N17 := Nf17 N17q
  have ne_a1_r17 : a1 ≠ r17 := Nat.ne_of_lt (Nat.lt_of_lt_of_le p1_0.lt fr17)
  have ne_xa_r17 : xa ≠ r17 := Nat.ne_of_lt (Nat.lt_of_lt_of_le f2.lt fr17)
  have g_r17 : n0 ≤ r17 := Nat.le_trans Z1 fr17
  have sz_r17 : h0.size ≤ r17 := Nat.le_trans K1.1 fr17
  have f18 := f2.keep Kq17 nin0
  have f19 := f3.keep Kq17 all0
  have f20 := p1_0.keep Kq17
  have f21 := p1_1.keep Kq17 nin0
  have f22 := p1_2.keep Kq17 nin0
  have f23 := p1_3.keep Kq17 nin0
  have f24 := p1_4.keep Kq17 nin0
  have Z17 := Nat.le_trans Z1 Kq17.1
  have K17 := K1.trans Kq17 all0
  refine own_tr st17 ?_
  obtain ⟨fs, hr, hrun, hended, hW, hsame⟩ := X17.leave (v := some (.ref r17)) (fun h => by rw [Bd.returns] at h; cases h)
  refine ⟨_, X17.areturnOut hx rfl Bd.returns rfl (hb hby d20_48) hr, fin _ _ _ hrun hended ?_ ⟨⟨_, rfl⟩, hW, hsame.mono (by decide) (by decide)⟩⟩
  show Q20 Z a1 xx xa xk ws kp xp xj1 xj2 xj3 xv0 xv1 xv2 h0 n0 _ T17.heap _
  exact ⟨_, yv_17, mv_17, dv_17, rfl, trivial, sz_r17, N17, K17, f20, f21, f22, f23, f24, p17_0, p17_1, p17_2, p17_3⟩
theorem own_hret {Z : State} {a1 : Addr} {xx : Nat → Nat} {xa : Addr} {xk : ClassId} {ws : List Int32} {kp : Addr} {xp : Int32} {xj1 : Int32} {xj2 : Int32} {xj3 : Int32} {xv0 : Int32} {xv1 : Int32} {xv2 : Int32} {h0 : Heap} {n0 : Nat} {v : Option Value} {h : Heap} {L : List Loc} (q : Q20 Z a1 xx xa xk ws kp xp xj1 xj2 xj3 xv0 xv1 xv2 h0 n0 v h L) : ∃ w, v = some w ∧ w.isRef = true := by
  obtain ⟨r, _, _, _, e, -⟩ := q
  exact ⟨_, e, rfl⟩
theorem d14_0 : decode oB14 0 = .ok (.aload_n 0, 1) := by decide +kernel
theorem d14_1 : decode oB14 1 = .ok (.invokevirtual 98, 3) := by decide +kernel
theorem d14_4 : decode oB14 4 = .ok (.istore_n 3, 1) := by decide +kernel
theorem d14_5 : decode oB14 5 = .ok (.iload_n 3, 1) := by decide +kernel
theorem d14_6 : decode oB14 6 = .ok (.ifCond .ne 5, 3) := by decide +kernel
theorem d14_9 : decode oB14 9 = .ok (.aconst_null, 1) := by decide +kernel
theorem d14_10 : decode oB14 10 = .ok (.areturn, 1) := by decide +kernel
theorem pn_14 : plainName own_cR = true := by first | (simp [plainName, overriddenIn]; done) | decide +kernel
theorem pd_14_4 : parseMethodDescriptor "()I" = some ⟨[], some .int⟩ := by decide +kernel
theorem ef_14 (m : MethodId) (x0 : Addr) (x1 : Addr) (x2 : Addr) : entryFrame m #[(.ref x0), (.ref x1), (.ref x2)] 6 = mkF m 0 #[own_R x0, own_R x1, own_R x2, .unset, .unset, .unset] [] := by first | (simp [entryFrame, mkF, argsToLocals, Value.category]; done) | rfl
def Q14 (Z : State) (a1 : Addr) (a2 : Addr) (a3 : Addr) (xa : Addr) (xk : ClassId) (ws : List Int32) (kp : Addr) (xp : Int32) (xj : Int32) (h0 : Heap) (n0 : Nat) (v : Option Value) (h : Heap) (L : List Loc) : Prop := v = some .null ∧ Fr n0 L ∧ Keep h0 h [a1] ∧ (Exa Z h a1 own_cR) ∧ (Fld Z h a1 own_cR "bytes" "[B" (.ref xa)) ∧ (Fld Z h a1 own_cR "position" "I" (.int xj)) ∧ (Fld Z h a1 own_cR "end" "I" (.int 24)) ∧ (Fld Z h a1 own_cR "kept" "Ljava/util/List;" (.ref kp))
theorem rm14 (l : Launch) (Z : State) (a0 : Array Value) (hw : ∀ d ∈ tables_1, d.before a0 Z = true) (ws_ : List Jvm.Cond) (a1 : Addr) (a2 : Addr) (a3 : Addr) (xa : Addr) (xk : ClassId) (ws : List Int32) (kp : Addr) (xp : Int32) (xj : Int32) (h0 : Heap) (n0 : Nat) (Z0 : n0 ≤ h0.size) (g_a1 : n0 ≤ a1) (ne_a1_xa : a1 ≠ xa) (P0 : Exa Z h0 a1 own_cR) (P1 : Fld Z h0 a1 own_cR "bytes" "[B" (.ref xa)) (P2 : Fld Z h0 a1 own_cR "position" "I" (.int xp)) (P3 : Fld Z h0 a1 own_cR "end" "I" (.int 24)) (P4 : Fld Z h0 a1 own_cR "kept" "Ljava/util/List;" (.ref kp)) (P5 : Arv Z h0 xa xk .byte (24 : Int32) (ws.map Value.int) (.int 0)) (hne : ¬ xp = (24 : Int32)) (hin : ¬ xp < 0 ∧ xp < (24 : Int32)) (hpj : (xp + (1 : Int32)) = xj) (hv : nar .byte (ws.getD (xp).toNatClampNeg 0) = (0 : Int32)) :
    own_Met l own_mt14 oB14 6 (some (.object "java/lang/Object")) ws_ ({ frames := 3, cells := 0, slots := 0, locals := 42 } : Room) #[(.ref a1), (.ref a2), (.ref a3)] Z h0 (Q14 Z a1 a2 a3 xa xk ws kp xp xj h0 n0) := by
  refine own_met n0 (plainFor_of_name pn_14) (fun m => ef_14 m a1 a2 a3) ?_
  intro p e s m below meth c s₁ Bd hZ hx hby hml hown' hnm X0 e0 N0 K fin
  have hown : s.vm.findClass own_cR = some m.cls := hown'
  show own_Go p e below K (s₁.setTop (mkF m 0 #[own_R a1, own_R a2, own_R a3, own_U, own_U, own_U] []))
  refine own_xaloadN X0 hx hby d14_0 rfl rfl ?_
  obtain ⟨cq1, kq1, qv1a, qv1b, qv1c⟩ := isOf hZ e0 P0
  obtain ⟨_, T1, L1, Lc1, X1, hQ1, Nf1, st1⟩ := own_back (cells := 0) (slots := 0) (rc := 0) (rs := 0) N0 (X0.virtualBack hx (y := own_mt9) (z := own_mt9) hown (mvT hZ (own_w hw 118 rfl)) (mvT hZ (own_w hw 84 rfl)) (notFace_of_selects (args := #[]) (mvT hZ (own_w hw 86 rfl))) (mvT hZ (own_w hw 86 rfl)) (mvT hZ (own_w hw 85 rfl)) (by decide) (backOf (W := 0) (rm9 l Z a0 hw [] a1 (xa) (xk) (ws) (kp) (xp) (xj) ((0 : Int32)) ((0 : Int64)) ((0 : Int32)) h0 n0 Z0 g_a1 ne_a1_xa P0 P1 P2 P3 P4 P5 hne hin hpj hv (by decide) (by decide) (by decide) (by decide)) hZ (own_w hw 87 rfl) (own_w hw 41 rfl) (by decide) (by decide)) qv1a qv1c (g := (mkF m 1 #[own_R a1, own_R a2, own_R a3, own_U, own_U, own_U] [(.ref a1)])) rfl (by rw [hml]; rfl) (Steps.refl _) (argsL := []) (rest := []) (lenOf pd_14_4 rfl) rfl (by show 2 * 0 + _ ≤ _; exact Nat.le_of_eq rfl) (hb hby d14_1) (fun _ _ => ⟨rfl, e0, (by decide : 0 + 0 ≤ _), (by decide : 0 + 0 ≤ _)⟩))
  obtain ⟨rfl, N1q, Kq1, p1_0, p1_1, p1_2, p1_3, p1_4⟩ := hQ1
  have N1 := Nf1 N1q
  have f2 := P5.keep Kq1 (ninS (Ne.symm ne_a1_xa) nin0)
  have Z1 := Nat.le_trans Z0 Kq1.1
  have K1 : Keep h0 T1.heap [a1] := (Keep.refl h0 [a1]).trans Kq1 (allS (P := fun x => x ∈ [a1] ∨ h0.size ≤ x) (Or.inl (List.mem_of_getElem? (i := 0) rfl)) all0)
  refine own_tr st1 ?_
  try clear st1 N1q P5
  refine own_xistoreN X1 hx hby d14_4 (l' := #[own_R a1, own_R a2, own_R a3, own_I 0, own_U, own_U]) rfl ?_
  refine own_xiloadN X1 hx hby d14_5 rfl ?_
  refine own_xifNo X1 hx hby d14_6 ((if0 _ _).trans (teq (by decide : (0 : Int32) = (0 : Int32))).2) ?_
  refine own_xaconstNull X1 hx hby d14_9 ?_
  obtain ⟨fs, hr, hrun, hended, hW, hsame⟩ := X1.leave (v := some .null) (fun h => by rw [Bd.returns] at h; cases h)
  refine ⟨_, X1.areturnOut hx rfl Bd.returns rfl (hb hby d14_10) hr, fin _ _ _ hrun hended ?_ ⟨⟨_, rfl⟩, hW, hsame.mono (by decide) (by decide)⟩⟩
  show Q14 Z a1 a2 a3 xa xk ws kp xp xj h0 n0 _ T1.heap _
  exact ⟨rfl, N1, K1, p1_0, p1_1, p1_2, p1_3, p1_4⟩
theorem d13_0 : decode oB13 0 = .ok (.aload_n 0, 1) := by decide +kernel
theorem d13_1 : decode oB13 1 = .ok (.ldc 95, 2) := by decide +kernel
theorem d13_3 : decode oB13 3 = .ok (.invokedynamic 97, 5) := by decide +kernel
theorem d13_8 : decode oB13 8 = .ok (.invokevirtual 91, 3) := by decide +kernel
theorem d13_11 : decode oB13 11 = .ok (.checkcast 95, 3) := by decide +kernel
theorem d13_14 : decode oB13 14 = .ok (.areturn, 1) := by decide +kernel
theorem pn_13 : plainName own_cR = true := by first | (simp [plainName, overriddenIn]; done) | decide +kernel
theorem pd_13_9 : parseMethodDescriptor "(Ljava/lang/Class;Lcom/example/deferline/deferline/io/KeptState$Whole;)Ljava/lang/Object;" = some ⟨[(.object "java/lang/Class"), (.object own_cW)], some (.object "java/lang/Object")⟩ := by decide +kernel
theorem ef_13 (m : MethodId) (x0 : Addr) : entryFrame m #[(.ref x0)] 1 = mkF m 0 #[own_R x0] [] := by first | (simp [entryFrame, mkF, argsToLocals, Value.category]; done) | rfl
def Q13 (Z : State) (a1 : Addr) (xx : Nat → Nat) (xa : Addr) (xk : ClassId) (ws : List Int32) (kp : Addr) (xp : Int32) (xj : Int32) (h0 : Heap) (n0 : Nat) (v : Option Value) (h : Heap) (L : List Loc) : Prop := v = some .null ∧ Fr n0 L ∧ Keep h0 h [a1] ∧ (Exa Z h a1 own_cR) ∧ (Fld Z h a1 own_cR "bytes" "[B" (.ref xa)) ∧ (Fld Z h a1 own_cR "position" "I" (.int xj)) ∧ (Fld Z h a1 own_cR "end" "I" (.int 24)) ∧ (Fld Z h a1 own_cR "kept" "Ljava/util/List;" (.ref kp))
theorem rm13 (l : Launch) (Z : State) (a0 : Array Value) (hw : ∀ d ∈ tables_1, d.before a0 Z = true) (ws_ : List Jvm.Cond) (a1 : Addr) (xx : Nat → Nat) (xa : Addr) (xk : ClassId) (ws : List Int32) (kp : Addr) (xp : Int32) (xj : Int32) (h0 : Heap) (n0 : Nat) (Z0 : n0 ≤ h0.size) (g_a1 : n0 ≤ a1) (ne_a1_xa : a1 ≠ xa) (P0 : Exa Z h0 a1 own_cR) (P1 : Fld Z h0 a1 own_cR "bytes" "[B" (.ref xa)) (P2 : Fld Z h0 a1 own_cR "position" "I" (.int xp)) (P3 : Fld Z h0 a1 own_cR "end" "I" (.int 24)) (P4 : Fld Z h0 a1 own_cR "kept" "Ljava/util/List;" (.ref kp)) (P5 : Arv Z h0 xa xk .byte (24 : Int32) (ws.map Value.int) (.int 0)) (HP : own_P Z xx) (hne : ¬ xp = (24 : Int32)) (hin : ¬ xp < 0 ∧ xp < (24 : Int32)) (hpj : (xp + (1 : Int32)) = xj) (hv : nar .byte (ws.getD (xp).toNatClampNeg 0) = (0 : Int32)) :
    own_Met l own_mt13 oB13 1 (some (.object own_cD)) ws_ ({ frames := 4, cells := 0, slots := 0, locals := 3074 } : Room) #[(.ref a1)] Z h0 (Q13 Z a1 xx xa xk ws kp xp xj h0 n0) := by
  refine own_met n0 (plainFor_of_name pn_13) (fun m => ef_13 m a1) ?_
  intro p e s m below meth c s₁ Bd hZ hx hby hml hown' hnm X0 e0 N0 K fin
  have hown : s.vm.findClass own_cR = some m.cls := hown'
  show own_Go p e below K (s₁.setTop (mkF m 0 #[own_R a1] []))
  refine own_xaloadN X0 hx hby d13_0 rfl rfl ?_
  obtain ⟨vm1, X1, st1⟩ := X0.ldcMirror hx hown (mvT hZ (own_w hw 108 rfl)) (own_mir hZ HP.2.2.2.2.2.2.2.2.2.2.2.2.2.2.2.2.2.2.2.2.2.2.2.2.1) (g := (mkF m 1 #[own_R a1] [(.ref a1)])) rfl (hb hby d13_1)
  have e1 : (s₁.setVm vm1).heap = h0 := e0
  refine own_st st1 ?_
  obtain ⟨kk2, i02, p02, hk2, hs2⟩ := own_site hZ HP.2.2.2.2.2.2.2.2.2.2.2.2.2.2.2.2.2.2.2.2.2.2.2.2.2 Bd.named
  refine own_st (fun _ => X1.lambdaConstant hx (g := (mkF m 3 #[own_R a1] [(.ref (xx 11)), (.ref a1)])) rfl (by rw [hml]; rfl) (hb hby d13_3) hk2 hs2 (by rw [Bd.admits.platform]; show 2 * 0 + 2 + 3072 ≤ _; decide)) ?_
  show own_Go p e below K ((s₁.setVm vm1).setTop (mkF m 8 #[own_R a1] [(.ref (xx 12)), (.ref (xx 11)), (.ref a1)]))
  obtain ⟨cq3, kq3, qv3a, qv3b, qv3c⟩ := isOf hZ e1 P0
  obtain ⟨_, T3, L3, Lc3, X3, hQ3, Nf3, st3⟩ := own_back (cells := 0) (slots := 0) (rc := 0) (rs := 0) N0 (X1.virtualBack hx (y := own_mt14) (z := own_mt14) hown (mvT hZ (own_w hw 113 rfl)) (mvT hZ (own_w hw 114 rfl)) (notFace_of_selects (args := #[]) (mvT hZ (own_w hw 116 rfl))) (mvT hZ (own_w hw 116 rfl)) (mvT hZ (own_w hw 115 rfl)) (by decide) (backOf (W := 0) (rm14 l Z a0 hw [] a1 (xx 11) (xx 12) (xa) (xk) (ws) (kp) (xp) (xj) h0 n0 Z0 g_a1 ne_a1_xa P0 P1 P2 P3 P4 P5 hne hin hpj hv) hZ (own_w hw 117 rfl) (own_w hw 41 rfl) (by decide) (by decide)) qv3a qv3c (g := (mkF m 8 #[own_R a1] [(.ref (xx 12)), (.ref (xx 11)), (.ref a1)])) rfl (by rw [hml]; rfl) (Steps.refl _) (argsL := [(.ref (xx 11)), (.ref (xx 12))]) (rest := []) (lenOf pd_13_9 rfl) rfl (by show 2 * 0 + _ ≤ _; exact Nat.le_of_eq rfl) (hb hby d13_8) (fun _ _ => ⟨rfl, e1, (by decide : 0 + 0 ≤ _), (by decide : 0 + 0 ≤ _)⟩))
  obtain ⟨rfl, N3q, Kq3, p3_0, p3_1, p3_2, p3_3, p3_4⟩ := hQ3
  have N3 := Nf3 N3q
  have f4 := P5.keep Kq3 (ninS (Ne.symm ne_a1_xa) nin0)
  have Z3 := Nat.le_trans Z0 Kq3.1
  have K3 : Keep h0 T3.heap [a1] := (Keep.refl h0 [a1]).trans Kq3 (allS (P := fun x => x ∈ [a1] ∨ h0.size ≤ x) (Or.inl (List.mem_of_getElem? (i := 0) rfl)) all0)
  refine own_tr st3 ?_
  refine own_st (X3.checkcastNull hx (g := (mkF m 11 #[own_R a1] [.null])) rfl rfl (hb hby d13_11)) ?_
  obtain ⟨fs, hr, hrun, hended, hW, hsame⟩ := X3.leave (v := some .null) (fun h => by rw [Bd.returns] at h; cases h)
  refine ⟨_, X3.areturnOut hx rfl Bd.returns rfl (hb hby d13_14) hr, fin _ _ _ hrun hended ?_ ⟨⟨_, rfl⟩, hW, hsame.mono (by decide) (by decide)⟩⟩
  show Q13 Z a1 xx xa xk ws kp xp xj h0 n0 _ T3.heap _
  exact ⟨rfl, N3, K3, p3_0, p3_1, p3_2, p3_3, p3_4⟩
theorem d14_11 : decode oB14 11 = .ok (.iload_n 3, 1) := by decide +kernel
theorem d14_12 : decode oB14 12 = .ok (.iconst 1, 1) := by decide +kernel
theorem d14_13 : decode oB14 13 = .ok (.if_icmp .ne 75, 3) := by decide +kernel
theorem d14_88 : decode oB14 88 = .ok (.iload_n 3, 1) := by decide +kernel
theorem d14_89 : decode oB14 89 = .ok (.iconst 2, 1) := by decide +kernel
theorem d14_90 : decode oB14 90 = .ok (.if_icmp .eq 17, 3) := by decide +kernel
theorem d14_107 : decode oB14 107 = .ok (.aload_n 2, 1) := by decide +kernel
theorem d14_108 : decode oB14 108 = .ok (.aload_n 0, 1) := by decide +kernel
theorem d14_109 : decode oB14 109 = .ok (.invokeinterface 155 2, 5) := by decide +kernel
theorem d14_114 : decode oB14 114 = .ok (.astore 4, 2) := by decide +kernel
theorem d14_116 : decode oB14 116 = .ok (.aload_n 0, 1) := by decide +kernel
theorem d14_117 : decode oB14 117 = .ok (.getfield 12, 3) := by decide +kernel
theorem d14_120 : decode oB14 120 = .ok (.aload 4, 2) := by decide +kernel
theorem d14_122 : decode oB14 122 = .ok (.invokeinterface 160 2, 5) := by decide +kernel
theorem d14_127 : decode oB14 127 = .ok (.pop, 1) := by decide +kernel
theorem d14_128 : decode oB14 128 = .ok (.aload 4, 2) := by decide +kernel
theorem d14_130 : decode oB14 130 = .ok (.areturn, 1) := by decide +kernel
theorem pd_14_15 : parseMethodDescriptor "(Lcom/example/deferline/deferline/io/KeptState$Reader;)Ljava/lang/Object;" = some ⟨[(.object own_cR)], some (.object "java/lang/Object")⟩ := by decide +kernel
theorem pd_14_22 : parseMethodDescriptor "(Ljava/lang/Object;)Z" = some ⟨[(.object "java/lang/Object")], some .boolean⟩ := by decide +kernel
theorem ef_14d (m : MethodId) (x0 : Addr) (x1 : Addr) (x2 : Addr) : entryFrame m #[(.ref x0), (.ref x1), (.ref x2)] 6 = mkF m 0 #[own_R x0, own_R x1, own_R x2, .unset, .unset, .unset] [] := by first | (simp [entryFrame, mkF, argsToLocals, Value.category]; done) | rfl
def Q14d (Z : State) (a1 : Addr) (a2 : Addr) (xx : Nat → Nat) (xa : Addr) (xk : ClassId) (ws : List Int32) (kp : Addr) (xp : Int32) (xj0 : Int32) (xj1 : Int32) (xj2 : Int32) (xj3 : Int32) (vb0 : Int32) (vb1 : Int32) (vb2 : Int32) (h0 : Heap) (n0 : Nat) (v : Option Value) (h : Heap) (L : List Loc) : Prop := ∃ (r : Addr) (yv : Int32) (mv : Int32) (dv : Int32), v = some (.ref r) ∧ (True) ∧ h0.size ≤ r ∧ Fr n0 L ∧ Keep h0 h [a1, kp] ∧ (Exa Z h a1 own_cR) ∧ (Fld Z h a1 own_cR "bytes" "[B" (.ref xa)) ∧ (Fld Z h a1 own_cR "position" "I" (.int xj3)) ∧ (Fld Z h a1 own_cR "end" "I" (.int 24)) ∧ (Fld Z h a1 own_cR "kept" "Ljava/util/List;" (.ref kp)) ∧ (Exa Z h r own_cD) ∧ (Fld Z h r own_cD "year" "I" (.int yv)) ∧ (Fld Z h r own_cD "month" "S" (.int mv)) ∧ (Fld Z h r own_cD "day" "S" (.int dv))
theorem rm14d (l : Launch) (Z : State) (a0 : Array Value) (hw : ∀ d ∈ tables_1, d.before a0 Z = true) (ws_ : List Jvm.Cond) (a1 : Addr) (a2 : Addr) (xx : Nat → Nat) (xa : Addr) (xk : ClassId) (ws : List Int32) (kp : Addr) (xp : Int32) (xj0 : Int32) (xj1 : Int32) (xj2 : Int32) (xj3 : Int32) (vb0 : Int32) (vb1 : Int32) (vb2 : Int32) (h0 : Heap) (n0 : Nat) (Z0 : n0 ≤ h0.size) (g_a1 : n0 ≤ a1) (g_kp : n0 ≤ kp) (ne_a1_xa : a1 ≠ xa) (ne_a1_kp : a1 ≠ kp) (ne_kp_xa : kp ≠ xa) (P0 : Exa Z h0 a1 own_cR) (P1 : Fld Z h0 a1 own_cR "bytes" "[B" (.ref xa)) (P2 : Fld Z h0 a1 own_cR "position" "I" (.int xp)) (P3 : Fld Z h0 a1 own_cR "end" "I" (.int 24)) (P4 : Fld Z h0 a1 own_cR "kept" "Ljava/util/List;" (.ref kp)) (P5 : Arv Z h0 xa xk .byte (24 : Int32) (ws.map Value.int) (.int 0)) (P6 : Exa Z h0 kp own_cA) (P7 : Fld Z h0 kp own_cA "elementData" "[Ljava/lang/Object;" (.ref (xx 0))) (P8 : Fld Z h0 kp "java/util/AbstractList" "modCount" "I" (.int 0)) (P9 : Fld Z h0 kp own_cA "size" "I" (.int 0)) (P10 : Old Z n0 h0) (HP : own_P Z xx) (hne : ¬ xp = (24 : Int32)) (hin : ¬ xp < 0 ∧ xp < (24 : Int32)) (hpj : (xp + (1 : Int32)) = xj0) (hv : nar .byte (ws.getD (xp).toNatClampNeg 0) = (2 : Int32)) (hne0 : ¬ xj0 = (24 : Int32)) (hin0 : ¬ xj0 < 0 ∧ xj0 < (24 : Int32)) (hpj0 : (xj0 + (1 : Int32)) = xj1) (hv0 : nar .byte (ws.getD (xj0).toNatClampNeg 0) = vb0) (hne1 : ¬ xj1 = (24 : Int32)) (hin1 : ¬ xj1 < 0 ∧ xj1 < (24 : Int32)) (hpj1 : (xj1 + (1 : Int32)) = xj2) (hv1 : nar .byte (ws.getD (xj1).toNatClampNeg 0) = vb1) (hne2 : ¬ xj2 = (24 : Int32)) (hin2 : ¬ xj2 < 0 ∧ xj2 < (24 : Int32)) (hpj2 : (xj2 + (1 : Int32)) = xj3) (hv2 : nar .byte (ws.getD (xj2).toNatClampNeg 0) = vb2) (hn0 : vb0 < (0 : Int32)) (hn1 : vb1 < (0 : Int32)) (hn2 : ¬ vb2 < (0 : Int32)) :
    own_Met l own_mt14 oB14 6 (some (.object "java/lang/Object")) ws_ ({ frames := 7, cells := 2, slots := 13, locals := 109 } : Room) #[(.ref a1), (.ref a2), (.ref (xx 12))] Z h0 (Q14d Z a1 a2 xx xa xk ws kp xp xj0 xj1 xj2 xj3 vb0 vb1 vb2 h0 n0) := by
  refine own_met n0 (plainFor_of_name pn_14) (fun m => ef_14d m a1 a2 (xx 12)) ?_
  intro p e s m below meth c s₁ Bd hZ hx hby hml hown' hnm X0 e0 N0 K fin
  have hown : s.vm.findClass own_cR = some m.cls := hown'
  show own_Go p e below K (s₁.setTop (mkF m 0 #[own_R a1, own_R a2, own_R (xx 12), own_U, own_U, own_U] []))
  refine own_xaloadN X0 hx hby d14_0 rfl rfl ?_
  obtain ⟨cq1, kq1, qv1a, qv1b, qv1c⟩ := isOf hZ e0 P0
  obtain ⟨_, T1, L1, Lc1, X1, hQ1, Nf1, st1⟩ := own_back (cells := 0) (slots := 0) (rc := 0) (rs := 0) N0 (X0.virtualBack hx (y := own_mt9) (z := own_mt9) hown (mvT hZ (own_w hw 118 rfl)) (mvT hZ (own_w hw 84 rfl)) (notFace_of_selects (args := #[]) (mvT hZ (own_w hw 86 rfl))) (mvT hZ (own_w hw 86 rfl)) (mvT hZ (own_w hw 85 rfl)) (by decide) (backOf (W := 0) (rm9 l Z a0 hw [] a1 (xa) (xk) (ws) (kp) (xp) (xj0) ((2 : Int32)) ((2 : Int64)) ((2 : Int32)) h0 n0 Z0 g_a1 ne_a1_xa P0 P1 P2 P3 P4 P5 hne hin hpj hv (by decide) (by decide) (by decide) (by decide)) hZ (own_w hw 87 rfl) (own_w hw 41 rfl) (by decide) (by decide)) qv1a qv1c (g := (mkF m 1 #[own_R a1, own_R a2, own_R (xx 12), own_U, own_U, own_U] [(.ref a1)])) rfl (by rw [hml]; rfl) (Steps.refl _) (argsL := []) (rest := []) (lenOf pd_14_4 rfl) rfl (by show 2 * 0 + _ ≤ _; exact Nat.le_of_eq rfl) (hb hby d14_1) (fun _ _ => ⟨rfl, e0, (by decide : 0 + 0 ≤ _), (by decide : 0 + 0 ≤ _)⟩))
  obtain ⟨rfl, N1q, Kq1, p1_0, p1_1, p1_2, p1_3, p1_4⟩ := hQ1
  have N1 := Nf1 N1q
  have f2 := P5.keep Kq1 (ninS (Ne.symm ne_a1_xa) nin0)
  have f3 := P6.keep Kq1
  have f4 := P7.keep Kq1 (ninS (Ne.symm ne_a1_kp) nin0)
  have f5 := P8.keep Kq1 (ninS (Ne.symm ne_a1_kp) nin0)
  have f6 := P9.keep Kq1 (ninS (Ne.symm ne_a1_kp) nin0)
  have f7 := P10.keep Kq1 (allS (P := fun x => n0 ≤ x) g_a1 all0)
  have Z1 := Nat.le_trans Z0 Kq1.1
  have K1 : Keep h0 T1.heap [a1, kp] := (Keep.refl h0 [a1, kp]).trans Kq1 (allS (P := fun x => x ∈ [a1, kp] ∨ h0.size ≤ x) (Or.inl (List.mem_of_getElem? (i := 0) rfl)) all0)
  refine own_tr st1 ?_
  try clear st1 N1q P5 P6 P7 P8 P9 P10
  refine own_xistoreN X1 hx hby d14_4 (l' := #[own_R a1, own_R a2, own_R (xx 12), own_I 2, own_U, own_U]) rfl ?_
  refine own_xiloadN X1 hx hby d14_5 rfl ?_
  refine own_xifYes X1 hx hby d14_6 (pc0 := 6) (pc' := 11) ((if0 _ _).trans (feq (by decide : ¬ ((2 : Int32) = (0 : Int32)))).2) rfl (by decide) (by decide) ?_
  refine own_xiloadN X1 hx hby d14_11 rfl ?_
  refine own_xiconst X1 hx hby d14_12 1 rfl ?_
  refine own_xicmpYes X1 hx hby d14_13 (pc0 := 13) (pc' := 88) (feq (by decide : ¬ ((2 : Int32) = (1 : Int32)))).2 rfl (by decide) (by decide) ?_
  refine own_xiloadN X1 hx hby d14_88 rfl ?_
  refine own_xiconst X1 hx hby d14_89 2 rfl ?_
  refine own_xicmpYes X1 hx hby d14_90 (pc0 := 90) (pc' := 107) (teq (by decide : (2 : Int32) = (2 : Int32))).1 rfl (by decide) (by decide) ?_
  refine own_xaloadN X1 hx hby d14_107 rfl rfl ?_
  refine own_xaloadN X1 hx hby d14_108 rfl rfl ?_
  obtain ⟨_, T8, L8, Lc8, X8, hQ8, Nf8, st8⟩ := own_back (cells := 0) (slots := 0) (rc := 1) (rs := 3) N1 (X1.fnAt hx (xi := (⟨own_cW, "read", "(Lcom/example/deferline/deferline/io/KeptState$Reader;)Ljava/lang/Object;"⟩ : MethodName)) hown (own_fnw hZ hw) (by decide) (own_fnx hZ HP.2.2.2.2.2.2.2.2.2.2.2.2.2.2.2.2.2.2.2.2.2.2.2.2.2 (own_w hw 168 rfl)) (own_lamBack (W := 0) hx Bd.admits hw (rm20 l Z a0 hw [] a1 xx (xa) (xk) (ws) (kp) (xj0) (xj1) (xj2) (xj3) (vb0) (vb1) (vb2) T1.heap n0 Z1 g_a1 ne_a1_xa p1_0 p1_1 p1_2 p1_3 p1_4 f2 f7 (by assumption) hne0 hin0 hpj0 hv0 hne1 hin1 hpj1 hv1 hne2 hin2 hpj2 hv2 hn0 hn1 hn2) (fun _ _ _ q => own_hret q) hZ HP.2.2.2.2.2.2.2.2.2.2.2.2.2.2.2.2.2.2.2.2.2.2.2.2.2 p1_0 (by decide) (by decide)) (fun _ _ => rfl) (b := (xx 12)) (own_isof HP.2.2.2.2.2.2.2.2.2.2.2.2.2.2.2.2.2.2.2.2.2.2.2.2.2 f7 rfl) (g := (mkF m 109 #[own_R a1, own_R a2, own_R (xx 12), own_I 2, own_U, own_U] [(.ref a1), (.ref (xx 12))])) rfl (by rw [hml]; rfl) (Steps.refl _) (argsL := [(.ref a1)]) (rest := []) (lenOf pd_14_15 rfl) rfl (by show 2 * 0 + _ ≤ _; exact Nat.le_of_eq rfl) (hb hby d14_109) (fun _ _ => ⟨⟨_, rfl⟩, rfl, (by decide : 0 + 1 ≤ _), (by decide : 0 + 3 ≤ _)⟩))
  obtain ⟨r8, yv_8, mv_8, dv_8, rfl, hr8, fr8, N8q, Kq8, p8_0, p8_1, p8_2, p8_3, p8_4, p8_5, p8_6, p8_7, p8_8⟩ := hQ8
  have N8 := Nf8 N8q
  have ne_a1_r8 : a1 ≠ r8 := Nat.ne_of_lt (Nat.lt_of_lt_of_le p1_0.lt fr8)
  have ne_kp_r8 : kp ≠ r8 := Nat.ne_of_lt (Nat.lt_of_lt_of_le f3.lt fr8)
  have ne_xa_r8 : xa ≠ r8 := Nat.ne_of_lt (Nat.lt_of_lt_of_le f2.lt fr8)
  have g_r8 : n0 ≤ r8 := Nat.le_trans Z1 fr8
  have sz_r8 : h0.size ≤ r8 := Nat.le_trans K1.1 fr8
  have f9 := f2.keep Kq8 (ninS (Ne.symm ne_a1_xa) nin0)
  have f10 := f3.keep Kq8
  have f11 := f4.keep Kq8 (ninS (Ne.symm ne_a1_kp) nin0)
  have f12 := f5.keep Kq8 (ninS (Ne.symm ne_a1_kp) nin0)
  have f13 := f6.keep Kq8 (ninS (Ne.symm ne_a1_kp) nin0)
  have f14 := f7.keep Kq8 (allS (P := fun x => n0 ≤ x) g_a1 all0)
  have Z8 := Nat.le_trans Z1 Kq8.1
  have K8 := K1.trans Kq8 (allS (P := fun x => x ∈ [a1, kp] ∨ h0.size ≤ x) (Or.inl (List.mem_of_getElem? (i := 0) rfl)) all0)
  refine own_tr st8 ?_
  try clear X1 st8 N1 N8q f2 f3 f4 f5 f6 f7
  refine own_xastore X8 hx hby d14_114 rfl (l' := #[own_R a1, own_R a2, own_R (xx 12), own_I 2, own_R r8, own_U]) rfl ?_
  refine own_xaloadN X8 hx hby d14_116 rfl rfl ?_
  obtain ⟨T15, X15, e15, st15⟩ := getF X8 hx hZ hown (host := "") (Or.inl (own_w hw 70 rfl)) Via.refl rfl p8_4 (g := (mkF m 117 #[own_R a1, own_R a2, own_R (xx 12), own_I 2, own_R r8, own_U] [(.ref a1)])) rfl rfl (hb hby d14_117)
  refine own_st st15 ?_
  try clear X8 st15
  refine own_xaload X15 hx hby d14_120 rfl rfl ?_
  obtain ⟨cq16, kq16, qv16a, qv16b, qv16c⟩ := isOf hZ e15 f10
  obtain ⟨_, T16, L16, Lc16, X16, hQ16, Nf16, st16⟩ := own_back (cells := 1) (slots := 3) (rc := 1) (rs := 10) N8 (X15.interfaceBack hx (xi := (⟨"java/util/List", "add", "(Ljava/lang/Object;)Z"⟩ : MethodName)) (y := own_mt33) hown (mvT hZ (own_w hw 269 rfl)) (mvT hZ (own_w hw 270 rfl)) (mvT hZ (own_w hw 271 rfl)) (mvT hZ (own_w hw 272 rfl)) (mvT hZ (own_w hw 273 rfl)) (mvT hZ (own_w hw 274 rfl)) (mvT hZ (own_w hw 275 rfl)) (mvT hZ (own_w hw 276 rfl)) (by decide) (backOf (W := 0) (rm33 l Z a0 hw [] kp r8 xx T8.heap n0 Z8 g_kp f10 f11 f12 f13 p8_5 f14 (by assumption)) hZ (own_w hw 277 rfl) (own_w hw 48 rfl) (by decide) (by decide)) qv16a qv16b qv16c (g := (mkF m 122 #[own_R a1, own_R a2, own_R (xx 12), own_I 2, own_R r8, own_U] [(.ref r8), (.ref kp)])) rfl (by rw [hml]; rfl) (Steps.refl _) (argsL := [(.ref r8)]) (rest := []) (lenOf pd_14_22 rfl) rfl (by show 2 * 0 + _ ≤ _; exact Nat.le_of_eq rfl) (hb hby d14_122) (fun _ _ => ⟨rfl, e15, (by decide : 1 + 1 ≤ _), (by decide : 3 + 10 ≤ _)⟩))
  obtain ⟨r16, rfl, hr16, N16q, Kq16⟩ := hQ16
  have N16 := Nf16 N16q
  have f17 := f9.keep Kq16 (ninS (Ne.symm ne_kp_xa) nin0)
  have f18 := f10.keep Kq16
  have f19 := f14.keep Kq16 (allS (P := fun x => n0 ≤ x) g_kp all0)
  have f20 := p8_0.keep Kq16
  have f21 := p8_1.keep Kq16 (ninS ne_a1_kp nin0)
  have f22 := p8_2.keep Kq16 (ninS ne_a1_kp nin0)
  have f23 := p8_3.keep Kq16 (ninS ne_a1_kp nin0)
  have f24 := p8_4.keep Kq16 (ninS ne_a1_kp nin0)
  have f25 := p8_5.keep Kq16
  have f26 := p8_6.keep Kq16 (ninS (Ne.symm ne_kp_r8) nin0)
  have f27 := p8_7.keep Kq16 (ninS (Ne.symm ne_kp_r8) nin0)
  have f28 := p8_8.keep Kq16 (ninS (Ne.symm ne_kp_r8) nin0)
  have Z16 := Nat.le_trans Z8 Kq16.1
  have K16 := K8.trans Kq16 (allS (P := fun x => x ∈ [a1, kp] ∨ h0.size ≤ x) (Or.inl (List.mem_of_getElem? (i := 1) rfl)) all0)
  refine own_tr st16 ?_
  try clear X15 e15 st16 N8 N16q f9 f10 f14 p8_0 p8_1 p8_2 p8_3 p8_4 p8_5 p8_6 p8_7 p8_8
  refine own_st (fun _ => XS.pop X16.here hx rfl (hb hby d14_127) rfl rfl) ?_
  refine own_xaload X16 hx hby d14_128 rfl rfl ?_
  obtain ⟨fs, hr, hrun, hended, hW, hsame⟩ := X16.leave (v := some (.ref r8)) (fun h => by rw [Bd.returns] at h; cases h)
  refine ⟨_, X16.areturnOut hx rfl Bd.returns rfl (hb hby d14_130) hr, fin _ _ _ hrun hended ?_ ⟨⟨_, rfl⟩, hW, hsame.mono (by decide) (by decide)⟩⟩
  show Q14d Z a1 a2 xx xa xk ws kp xp xj0 xj1 xj2 xj3 vb0 vb1 vb2 h0 n0 _ T16.heap _
  exact ⟨_, yv_8, mv_8, dv_8, rfl, trivial, sz_r8, N16, K16, f20, f21, f22, f23, f24, f25, f26, f27, f28⟩
theorem ef_13d (m : MethodId) (x0 : Addr) : entryFrame m #[(.ref x0)] 1 = mkF m 0 #[own_R x0] [] := by first | (simp [entryFrame, mkF, argsToLocals, Value.category]; done) | rfl
def Q13d (Z : State) (a1 : Addr) (xx : Nat → Nat) (xa : Addr) (xk : ClassId) (ws : List Int32) (kp : Addr) (xp : Int32) (xj0 : Int32) (xj1 : Int32) (xj2 : Int32) (xj3 : Int32) (vb0 : Int32) (vb1 : Int32) (vb2 : Int32) (h0 : Heap) (n0 : Nat) (v : Option Value) (h : Heap) (L : List Loc) : Prop := ∃ (r : Addr) (yv : Int32) (mv : Int32) (dv : Int32), v = some (.ref r) ∧ (True) ∧ h0.size ≤ r ∧ Fr n0 L ∧ Keep h0 h [a1, kp] ∧ (Exa Z h a1 own_cR) ∧ (Fld Z h a1 own_cR "bytes" "[B" (.ref xa)) ∧ (Fld Z h a1 own_cR "position" "I" (.int xj3)) ∧ (Fld Z h a1 own_cR "end" "I" (.int 24)) ∧ (Fld Z h a1 own_cR "kept" "Ljava/util/List;" (.ref kp)) ∧ (Exa Z h r own_cD) ∧ (Fld Z h r own_cD "year" "I" (.int yv)) ∧ (Fld Z h r own_cD "month" "S" (.int mv)) ∧ (Fld Z h r own_cD "day" "S" (.int dv))
theorem rm13d (l : Launch) (Z : State) (a0 : Array Value) (hw : ∀ d ∈ tables_1, d.before a0 Z = true) (ws_ : List Jvm.Cond) (a1 : Addr) (xx : Nat → Nat) (xa : Addr) (xk : ClassId) (ws : List Int32) (kp : Addr) (xp : Int32) (xj0 : Int32) (xj1 : Int32) (xj2 : Int32) (xj3 : Int32) (vb0 : Int32) (vb1 : Int32) (vb2 : Int32) (h0 : Heap) (n0 : Nat) (Z0 : n0 ≤ h0.size) (g_a1 : n0 ≤ a1) (g_kp : n0 ≤ kp) (ne_a1_xa : a1 ≠ xa) (ne_a1_kp : a1 ≠ kp) (ne_kp_xa : kp ≠ xa) (P0 : Exa Z h0 a1 own_cR) (P1 : Fld Z h0 a1 own_cR "bytes" "[B" (.ref xa)) (P2 : Fld Z h0 a1 own_cR "position" "I" (.int xp)) (P3 : Fld Z h0 a1 own_cR "end" "I" (.int 24)) (P4 : Fld Z h0 a1 own_cR "kept" "Ljava/util/List;" (.ref kp)) (P5 : Arv Z h0 xa xk .byte (24 : Int32) (ws.map Value.int) (.int 0)) (P6 : Exa Z h0 kp own_cA) (P7 : Fld Z h0 kp own_cA "elementData" "[Ljava/lang/Object;" (.ref (xx 0))) (P8 : Fld Z h0 kp "java/util/AbstractList" "modCount" "I" (.int 0)) (P9 : Fld Z h0 kp own_cA "size" "I" (.int 0)) (P10 : Old Z n0 h0) (HP : own_P Z xx) (hne : ¬ xp = (24 : Int32)) (hin : ¬ xp < 0 ∧ xp < (24 : Int32)) (hpj : (xp + (1 : Int32)) = xj0) (hv : nar .byte (ws.getD (xp).toNatClampNeg 0) = (2 : Int32)) (hne0 : ¬ xj0 = (24 : Int32)) (hin0 : ¬ xj0 < 0 ∧ xj0 < (24 : Int32)) (hpj0 : (xj0 + (1 : Int32)) = xj1) (hv0 : nar .byte (ws.getD (xj0).toNatClampNeg 0) = vb0) (hne1 : ¬ xj1 = (24 : Int32)) (hin1 : ¬ xj1 < 0 ∧ xj1 < (24 : Int32)) (hpj1 : (xj1 + (1 : Int32)) = xj2) (hv1 : nar .byte (ws.getD (xj1).toNatClampNeg 0) = vb1) (hne2 : ¬ xj2 = (24 : Int32)) (hin2 : ¬ xj2 < 0 ∧ xj2 < (24 : Int32)) (hpj2 : (xj2 + (1 : Int32)) = xj3) (hv2 : nar .byte (ws.getD (xj2).toNatClampNeg 0) = vb2) (hn0 : vb0 < (0 : Int32)) (hn1 : vb1 < (0 : Int32)) (hn2 : ¬ vb2 < (0 : Int32)) :
    own_Met l own_mt13 oB13 1 (some (.object own_cD)) ws_ ({ frames := 8, cells := 2, slots := 13, locals := 3074 } : Room) #[(.ref a1)] Z h0 (Q13d Z a1 xx xa xk ws kp xp xj0 xj1 xj2 xj3 vb0 vb1 vb2 h0 n0) := by
  refine own_met n0 (plainFor_of_name pn_13) (fun m => ef_13d m a1) ?_
  intro p e s m below meth c s₁ Bd hZ hx hby hml hown' hnm X0 e0 N0 K fin
  have hown : s.vm.findClass own_cR = some m.cls := hown'
  show own_Go p e below K (s₁.setTop (mkF m 0 #[own_R a1] []))
  refine own_xaloadN X0 hx hby d13_0 rfl rfl ?_
  obtain ⟨vm1, X1, st1⟩ := X0.ldcMirror hx hown (mvT hZ (own_w hw 108 rfl)) (own_mir hZ HP.2.2.2.2.2.2.2.2.2.2.2.2.2.2.2.2.2.2.2.2.2.2.2.2.1) (g := (mkF m 1 #[own_R a1] [(.ref a1)])) rfl (hb hby d13_1)
  have e1 : (s₁.setVm vm1).heap = h0 := e0
  refine own_st st1 ?_
  obtain ⟨kk2, i02, p02, hk2, hs2⟩ := own_site hZ HP.2.2.2.2.2.2.2.2.2.2.2.2.2.2.2.2.2.2.2.2.2.2.2.2.2 Bd.named
  refine own_st (fun _ => X1.lambdaConstant hx (g := (mkF m 3 #[own_R a1] [(.ref (xx 11)), (.ref a1)])) rfl (by rw [hml]; rfl) (hb hby d13_3) hk2 hs2 (by rw [Bd.admits.platform]; show 2 * 0 + 2 + 3072 ≤ _; decide)) ?_
  show own_Go p e below K ((s₁.setVm vm1).setTop (mkF m 8 #[own_R a1] [(.ref (xx 12)), (.ref (xx 11)), (.ref a1)]))
  obtain ⟨cq3, kq3, qv3a, qv3b, qv3c⟩ := isOf hZ e1 P0
  obtain ⟨_, T3, L3, Lc3, X3, hQ3, Nf3, st3⟩ := own_back (cells := 0) (slots := 0) (rc := 2) (rs := 13) N0 (X1.virtualBack hx (y := own_mt14) (z := own_mt14) hown (mvT hZ (own_w hw 113 rfl)) (mvT hZ (own_w hw 114 rfl)) (notFace_of_selects (args := #[]) (mvT hZ (own_w hw 116 rfl))) (mvT hZ (own_w hw 116 rfl)) (mvT hZ (own_w hw 115 rfl)) (by decide) (backOf (W := 0) (rm14d l Z a0 hw [] a1 (xx 11) xx (xa) (xk) (ws) (kp) (xp) (xj0) (xj1) (xj2) (xj3) (vb0) (vb1) (vb2) h0 n0 Z0 g_a1 g_kp ne_a1_xa ne_a1_kp ne_kp_xa P0 P1 P2 P3 P4 P5 P6 P7 P8 P9 P10 (by assumption) hne hin hpj hv hne0 hin0 hpj0 hv0 hne1 hin1 hpj1 hv1 hne2 hin2 hpj2 hv2 hn0 hn1 hn2) hZ (own_w hw 117 rfl) (own_w hw 41 rfl) (by decide) (by decide)) qv3a qv3c (g := (mkF m 8 #[own_R a1] [(.ref (xx 12)), (.ref (xx 11)), (.ref a1)])) rfl (by rw [hml]; rfl) (Steps.refl _) (argsL := [(.ref (xx 11)), (.ref (xx 12))]) (rest := []) (lenOf pd_13_9 rfl) rfl (by show 2 * 0 + _ ≤ _; exact Nat.le_of_eq rfl) (hb hby d13_8) (fun _ _ => ⟨rfl, e1, (by decide : 0 + 2 ≤ _), (by decide : 0 + 13 ≤ _)⟩))
  obtain ⟨r3, yv_3, mv_3, dv_3, rfl, hr3, fr3, N3q, Kq3, p3_0, p3_1, p3_2, p3_3, p3_4, p3_5, p3_6, p3_7, p3_8⟩ := hQ3
  have N3 := Nf3 N3q
  have ne_a1_r3 : a1 ≠ r3 := Nat.ne_of_lt (Nat.lt_of_lt_of_le P0.lt fr3)
  have ne_kp_r3 : kp ≠ r3 := Nat.ne_of_lt (Nat.lt_of_lt_of_le P6.lt fr3)
  have ne_xa_r3 : xa ≠ r3 := Nat.ne_of_lt (Nat.lt_of_lt_of_le P5.lt fr3)
  have g_r3 : n0 ≤ r3 := Nat.le_trans Z0 fr3
  have sz_r3 : h0.size ≤ r3 := Nat.le_trans (Keep.refl h0 [a1, kp]).1 fr3
  have f4 := P5.keep Kq3 (ninS (Ne.symm ne_a1_xa) (ninS (Ne.symm ne_kp_xa) nin0))
  have f5 := P6.keep Kq3
  have f6 := P10.keep Kq3 (allS (P := fun x => n0 ≤ x) g_a1 (allS (P := fun x => n0 ≤ x) g_kp all0))
  have Z3 := Nat.le_trans Z0 Kq3.1
  have K3 : Keep h0 T3.heap [a1, kp] := (Keep.refl h0 [a1, kp]).trans Kq3 (allS (P := fun x => x ∈ [a1, kp] ∨ h0.size ≤ x) (Or.inl (List.mem_of_getElem? (i := 0) rfl)) (allS (P := fun x => x ∈ [a1, kp] ∨ h0.size ≤ x) (Or.inl (List.mem_of_getElem? (i := 1) rfl)) all0))
  refine own_tr st3 ?_
  obtain ⟨T7, X7, e7, st7⟩ := castY X3 hx hZ hown (own_w hw 108 rfl) rfl (Ins.self p3_5) (g := (mkF m 11 #[own_R a1] [(.ref r3)])) rfl rfl (hb hby d13_11)
  refine own_st st7 ?_
  obtain ⟨fs, hr, hrun, hended, hW, hsame⟩ := X7.leave (v := some (.ref r3)) (fun h => by rw [Bd.returns] at h; cases h)
  refine ⟨_, X7.areturnOut hx rfl Bd.returns rfl (hb hby d13_14) hr, fin _ _ _ hrun hended ?_ ⟨⟨_, rfl⟩, hW, hsame.mono (by decide) (by decide)⟩⟩
  show Q13d Z a1 xx xa xk ws kp xp xj0 xj1 xj2 xj3 vb0 vb1 vb2 h0 n0 _ T7.heap _
  rw [e7]
  exact ⟨_, yv_3, mv_3, dv_3, rfl, trivial, sz_r3, N3, K3, p3_0, p3_1, p3_2, p3_3, p3_4, p3_5, p3_6, p3_7, p3_8⟩
theorem d15_0 : decode oB15 0 = .ok (.aload_n 0, 1) := by decide +kernel
theorem d15_1 : decode oB15 1 = .ok (.ifnonnull 9, 3) := by decide +kernel
theorem d15_4 : decode oB15 4 = .ok (.ldc2_w 25, 3) := by decide +kernel
theorem d15_7 : decode oB15 7 = .ok (.goto 7, 3) := by decide +kernel
theorem d15_14 : decode oB15 14 = .ok (.lreturn, 1) := by decide +kernel
theorem pn_15 : plainName own_cL = true := by first | (simp [plainName, overriddenIn]; done) | decide +kernel
theorem ef_15 (m : MethodId)  : entryFrame m #[.null] 1 = mkF m 0 #[own_N] [] := by first | (simp [entryFrame, mkF, argsToLocals, Value.category]; done) | rfl
def Q15 (Z : State)  (h0 : Heap) (n0 : Nat) (v : Option Value) (h : Heap) (L : List Loc) : Prop := v = some (.long (-9223372036854775808)) ∧ Fr n0 L ∧ h = h0
theorem rm15 (l : Launch) (Z : State) (a0 : Array Value) (hw : ∀ d ∈ tables_1, d.before a0 Z = true) (ws_ : List Jvm.Cond)  (h0 : Heap) (n0 : Nat) (Z0 : n0 ≤ h0.size)  :
    own_Met l own_mt15 oB15 1 (some .long) ws_ ({ frames := 0, cells := 0, slots := 0, locals := 0 } : Room) #[.null] Z h0 (Q15 Z h0 n0) := by
  refine own_met n0 (plainFor_of_name pn_15) (fun m => ef_15 m ) ?_
  intro p e s m below meth c s₁ Bd hZ hx hby hml hown' hnm X0 e0 N0 K fin
  have hown : s.vm.findClass own_cL = some m.cls := hown'
  show own_Go p e below K (s₁.setTop (mkF m 0 #[own_N] []))
  refine own_xaloadN X0 hx hby d15_0 rfl rfl ?_
  refine own_st (fun _ => XS.ifnonnullNo X0.here hx rfl (hb hby d15_1) rfl) ?_
  refine own_st (X0.ldc2Long hx hown (mvT hZ (own_w hw 20 rfl)) (g := (mkF m 4 #[own_N] [])) rfl (hb hby d15_4)) ?_
  refine own_xgoto X0 hx hby d15_7 (pc0 := 7) (pc' := 14) rfl (by decide) (by decide) ?_
  obtain ⟨fs, hr, hrun, hended, hW, hsame⟩ := X0.leave (v := some (.long (-9223372036854775808))) (fun h => by rw [Bd.returns] at h; cases h)
  refine ⟨_, X0.lreturnOut hx Bd.returns (hb hby d15_14) hr, fin _ _ _ hrun hended ?_ ⟨⟨_, rfl⟩, hW, hsame.mono (by decide) (by decide)⟩⟩
  show Q15 Z h0 n0 _ s₁.heap _
  rw [e0]
  exact ⟨rfl, N0, rfl⟩
theorem d15_10 : decode oB15 10 = .ok (.aload_n 0, 1) := by decide +kernel
theorem d15_11 : decode oB15 11 = .ok (.invokevirtual 216, 3) := by decide +kernel
theorem pd_15_5 : parseMethodDescriptor "()J" = some ⟨[], some .long⟩ := by decide +kernel
theorem ef_15d (m : MethodId) (x0 : Addr) : entryFrame m #[(.ref x0)] 1 = mkF m 0 #[own_R x0] [] := by first | (simp [entryFrame, mkF, argsToLocals, Value.category]; done) | rfl
def Q15d (Z : State) (a1 : Addr) (xx : Nat → Nat) (yy : Int32) (mm : Int32) (dd : Int32) (h0 : Heap) (n0 : Nat) (v : Option Value) (h : Heap) (L : List Loc) : Prop := ∃ (r : Int64), v = some (.long r) ∧ (¬ r = (-9223372036854775808 : Int64)) ∧ Fr n0 L ∧ h = h0
theorem rm15d (l : Launch) (Z : State) (a0 : Array Value) (hw : ∀ d ∈ tables_1, d.before a0 Z = true) (ws_ : List Jvm.Cond) (a1 : Addr) (xx : Nat → Nat) (yy : Int32) (mm : Int32) (dd : Int32) (h0 : Heap) (n0 : Nat) (Z0 : n0 ≤ h0.size) (P0 : Exa Z h0 a1 own_cD) (P1 : Fld Z h0 a1 own_cD "year" "I" (.int yy)) (P2 : Fld Z h0 a1 own_cD "month" "S" (.int mm)) (P3 : Fld Z h0 a1 own_cD "day" "S" (.int dd)) (P4 : Old Z n0 h0) (HP : own_P Z xx) :
    own_Met l own_mt15 oB15 1 (some .long) ws_ ({ frames := 3, cells := 0, slots := 0, locals := 44 } : Room) #[(.ref a1)] Z h0 (Q15d Z a1 xx yy mm dd h0 n0) := by
  refine own_met n0 (plainFor_of_name pn_15) (fun m => ef_15d m a1) ?_
  intro p e s m below meth c s₁ Bd hZ hx hby hml hown' hnm X0 e0 N0 K fin
  have hown : s.vm.findClass own_cL = some m.cls := hown'
  show own_Go p e below K (s₁.setTop (mkF m 0 #[own_R a1] []))
  refine own_xaloadN X0 hx hby d15_0 rfl rfl ?_
  refine own_st (fun _ => XS.ifnonnullYes X0.here hx rfl (pc0 := 1) (pc' := 10) rfl (hb hby d15_1) rfl (by decide) (by decide)) ?_
  refine own_xaloadN X0 hx hby d15_10 rfl rfl ?_
  obtain ⟨cq1, kq1, qv1a, qv1b, qv1c⟩ := isOf hZ e0 P0
  obtain ⟨_, T1, L1, Lc1, X1, hQ1, Nf1, st1⟩ := own_back (cells := 0) (slots := 0) (rc := 0) (rs := 0) N0 (X0.virtualBack hx (y := own_mt22) (z := own_mt22) hown (mvT hZ (own_w hw 304 rfl)) (mvT hZ (own_w hw 179 rfl)) (notFace_of_selects (args := #[]) (mvT hZ (own_w hw 181 rfl))) (mvT hZ (own_w hw 181 rfl)) (mvT hZ (own_w hw 180 rfl)) (by decide) (backOf (W := 0) (rm22 l Z a0 hw [] a1 xx (yy) (mm) (dd) h0 n0 Z0 P0 P1 P2 P3 P4 (by assumption)) hZ (own_w hw 182 rfl) (own_w hw 177 rfl) (by decide) (by decide)) qv1a qv1c (g := (mkF m 11 #[own_R a1] [(.ref a1)])) rfl (by rw [hml]; rfl) (Steps.refl _) (argsL := []) (rest := []) (lenOf pd_15_5 rfl) rfl (by show 2 * 0 + _ ≤ _; exact Nat.le_of_eq rfl) (hb hby d15_11) (fun _ _ => ⟨rfl, e0, (by decide : 0 + 0 ≤ _), (by decide : 0 + 0 ≤ _)⟩))
  obtain ⟨r1, rfl, hr1, N1q, e1⟩ := hQ1
  have N1 := Nf1 N1q
  refine own_tr st1 ?_
  obtain ⟨fs, hr, hrun, hended, hW, hsame⟩ := X1.leave (v := some (.long r1)) (fun h => by rw [Bd.returns] at h; cases h)
  refine ⟨_, X1.lreturnOut hx Bd.returns (hb hby d15_14) hr, fin _ _ _ hrun hended ?_ ⟨⟨_, rfl⟩, hW, hsame.mono (by decide) (by decide)⟩⟩
  show Q15d Z a1 xx yy mm dd h0 n0 _ T1.heap _
  rw [e1]
  exact ⟨_, rfl, (by rw [hr1]; exact own_ted_ne _ _ _), N1, rfl⟩
theorem d40_0 : decode oB40 0 = .ok (.getstatic 90, 3) := by decide +kernel
theorem d40_3 : decode oB40 3 = .ok (.areturn, 1) := by decide +kernel
theorem pn_40 : plainName "java/util/List" = true := by first | (simp [plainName, overriddenIn]; done) | decide +kernel
theorem ef_40 (m : MethodId)  : entryFrame m #[] 0 = mkF m 0 #[] [] := by first | (simp [entryFrame, mkF, argsToLocals, Value.category]; done) | rfl
def Q40 (Z : State) (xx : Nat → Nat) (h0 : Heap) (n0 : Nat) (v : Option Value) (h : Heap) (L : List Loc) : Prop := v = some (.ref (xx 4)) ∧ Fr n0 L ∧ h = h0
theorem rm40 (l : Launch) (Z : State) (a0 : Array Value) (hw : ∀ d ∈ tables_1, d.before a0 Z = true) (ws_ : List Jvm.Cond) (xx : Nat → Nat) (h0 : Heap) (n0 : Nat) (Z0 : n0 ≤ h0.size) (P0 : Old Z n0 h0) (HP : own_P Z xx) :
    own_Met l own_mt40 oB40 0 (some (.object "java/util/List")) ws_ ({ frames := 0, cells := 0, slots := 0, locals := 0 } : Room) #[] Z h0 (Q40 Z xx h0 n0) := by
  refine own_met n0 (plainFor_of_name pn_40) (fun m => ef_40 m ) ?_
  intro p e s m below meth c s₁ Bd hZ hx hby hml hown' hnm X0 e0 N0 K fin
  have hown : s.vm.findClass "java/util/List" = some m.cls := hown'
  show own_Go p e below K (s₁.setTop (mkF m 0 #[] []))
  obtain ⟨T1, X1, e1, st1⟩ := getS2 X0 hx hZ hown (host := "") (Or.inl (own_w hw 327 rfl)) Via.refl e0 (HP.2.2.2.2.1.ext P0.2) (g := (mkF m 0 #[] [])) rfl (hb hby d40_0)
  refine own_st st1 ?_
  obtain ⟨fs, hr, hrun, hended, hW, hsame⟩ := X1.leave (v := some (.ref (xx 4))) (fun h => by rw [Bd.returns] at h; cases h)
  refine ⟨_, X1.areturnOut hx rfl Bd.returns rfl (hb hby d40_3) hr, fin _ _ _ hrun hended ?_ ⟨⟨_, rfl⟩, hW, hsame.mono (by decide) (by decide)⟩⟩
  show Q40 Z xx h0 n0 _ T1.heap _
  rw [e1]
  exact ⟨rfl, N0, rfl⟩
theorem d18_0 : decode oB18 0 = .ok (.getstatic 9, 3) := by decide +kernel
theorem d18_3 : decode oB18 3 = .ok (.areturn, 1) := by decide +kernel
theorem pn_18 : plainName "java/util/Set" = true := by first | (simp [plainName, overriddenIn]; done) | decide +kernel
theorem ef_18 (m : MethodId)  : entryFrame m #[] 0 = mkF m 0 #[] [] := by first | (simp [entryFrame, mkF, argsToLocals, Value.category]; done) | rfl
def Q18 (Z : State) (xx : Nat → Nat) (h0 : Heap) (n0 : Nat) (v : Option Value) (h : Heap) (L : List Loc) : Prop := v = some (.ref (xx 5)) ∧ Fr n0 L ∧ h = h0
theorem rm18 (l : Launch) (Z : State) (a0 : Array Value) (hw : ∀ d ∈ tables_1, d.before a0 Z = true) (ws_ : List Jvm.Cond) (xx : Nat → Nat) (h0 : Heap) (n0 : Nat) (Z0 : n0 ≤ h0.size) (P0 : Old Z n0 h0) (HP : own_P Z xx) :
    own_Met l own_mt18 oB18 0 (some (.object "java/util/Set")) ws_ ({ frames := 0, cells := 0, slots := 0, locals := 0 } : Room) #[] Z h0 (Q18 Z xx h0 n0) := by
  refine own_met n0 (plainFor_of_name pn_18) (fun m => ef_18 m ) ?_
  intro p e s m below meth c s₁ Bd hZ hx hby hml hown' hnm X0 e0 N0 K fin
  have hown : s.vm.findClass "java/util/Set" = some m.cls := hown'
  show own_Go p e below K (s₁.setTop (mkF m 0 #[] []))
  obtain ⟨T1, X1, e1, st1⟩ := getS2 X0 hx hZ hown (host := "") (Or.inl (own_w hw 151 rfl)) Via.refl e0 (HP.2.2.2.2.2.1.ext P0.2) (g := (mkF m 0 #[] [])) rfl (hb hby d18_0)
  refine own_st st1 ?_
  obtain ⟨fs, hr, hrun, hended, hW, hsame⟩ := X1.leave (v := some (.ref (xx 5))) (fun h => by rw [Bd.returns] at h; cases h)
  refine ⟨_, X1.areturnOut hx rfl Bd.returns rfl (hb hby d18_3) hr, fin _ _ _ hrun hended ?_ ⟨⟨_, rfl⟩, hW, hsame.mono (by decide) (by decide)⟩⟩
  show Q18 Z xx h0 n0 _ T1.heap _
  rw [e1]
  exact ⟨rfl, N0, rfl⟩
theorem d39_0 : decode oB39 0 = .ok (.aload_n 0, 1) := by decide +kernel
theorem d39_1 : decode oB39 1 = .ok (.invokespecial 1, 3) := by decide +kernel
theorem d39_4 : decode oB39 4 = .ok (.aload_n 0, 1) := by decide +kernel
theorem d39_5 : decode oB39 5 = .ok (.getstatic 7, 3) := by decide +kernel
theorem d39_8 : decode oB39 8 = .ok (.putfield 13, 3) := by decide +kernel
theorem d39_11 : decode oB39 11 = .ok (.aload_n 0, 1) := by decide +kernel
theorem d39_12 : decode oB39 12 = .ok (.invokestatic 16, 3) := by decide +kernel
theorem d39_15 : decode oB39 15 = .ok (.putfield 22, 3) := by decide +kernel
theorem d39_18 : decode oB39 18 = .ok (.aload_n 0, 1) := by decide +kernel
theorem d39_19 : decode oB39 19 = .ok (.aconst_null, 1) := by decide +kernel
theorem d39_20 : decode oB39 20 = .ok (.putfield 26, 3) := by decide +kernel
theorem d39_23 : decode oB39 23 = .ok (.aload_n 0, 1) := by decide +kernel
theorem d39_24 : decode oB39 24 = .ok (.aload_n 1, 1) := by decide +kernel
theorem d39_25 : decode oB39 25 = .ok (.putfield 30, 3) := by decide +kernel
theorem d39_28 : decode oB39 28 = .ok (.aload_n 0, 1) := by decide +kernel
theorem d39_29 : decode oB39 29 = .ok (.aload_n 2, 1) := by decide +kernel
theorem d39_30 : decode oB39 30 = .ok (.putfield 34, 3) := by decide +kernel
theorem d39_33 : decode oB39 33 = .ok (.return_, 1) := by decide +kernel
theorem pn_39 : plainName own_cB = true := by first | (simp [plainName, overriddenIn]; done) | decide +kernel
theorem pd_39_28 : parseMethodDescriptor "()Ljava/util/List;" = some ⟨[], some (.object "java/util/List")⟩ := by decide +kernel
theorem ef_39 (m : MethodId) (x0 : Addr) : entryFrame m #[(.ref x0), .null, .null] 3 = mkF m 0 #[own_R x0, own_N, own_N] [] := by first | (simp [entryFrame, mkF, argsToLocals, Value.category]; done) | rfl
def Q39 (Z : State) (a1 : Addr) (xx : Nat → Nat) (h0 : Heap) (n0 : Nat) (v : Option Value) (h : Heap) (L : List Loc) : Prop := v = none ∧ Fr n0 L ∧ Keep h0 h [a1] ∧ (Exa Z h a1 own_cB)
theorem rm39 (l : Launch) (Z : State) (a0 : Array Value) (hw : ∀ d ∈ tables_1, d.before a0 Z = true) (ws_ : List Jvm.Cond) (a1 : Addr) (xx : Nat → Nat) (h0 : Heap) (n0 : Nat) (Z0 : n0 ≤ h0.size) (g_a1 : n0 ≤ a1) (P0 : Exa Z h0 a1 own_cB) (P1 : Fld Z h0 a1 own_cB "held" "[Lcom/example/deferline/deferline/books/AccountBooks$Units;" .null) (P2 : Fld Z h0 a1 own_cB "entries" "Ljava/util/List;" .null) (P3 : Fld Z h0 a1 own_cB "foldedThrough" "Ljava/time/LocalDate;" .null) (P4 : Fld Z h0 a1 own_cB "funds" "Lcom/example/deferline/deferline/market/Funds;" .null) (P5 : Fld Z h0 a1 own_cB "calendar" "Lcom/example/deferline/deferline/market/TradingCalendar;" .null) (P6 : Old Z n0 h0) (HP : own_P Z xx) :
    own_Met l own_mt39 oB39 3 none ws_ ({ frames := 1, cells := 0, slots := 0, locals := 12 } : Room) #[(.ref a1), .null, .null] Z h0 (Q39 Z a1 xx h0 n0) := by
  refine own_met n0 (plainFor_of_name pn_39) (fun m => ef_39 m a1) ?_
  intro p e s m below meth c s₁ Bd hZ hx hby hml hown' hnm X0 e0 N0 K fin
  have hown : s.vm.findClass own_cB = some m.cls := hown'
  show own_Go p e below K (s₁.setTop (mkF m 0 #[own_R a1, own_N, own_N] []))
  refine own_xaloadN X0 hx hby d39_0 rfl rfl ?_
  obtain ⟨T1, X1, e1, st1⟩ := initO X0 hx hZ hown (own_w hw 318 rfl) (own_w hw 12 rfl) (own_w hw 13 rfl) e0 (g := (mkF m 1 #[own_R a1, own_N, own_N] [(.ref a1)])) rfl (by rw [hml]; rfl) rfl (hb hby d39_1) (by decide) (W := 0) (by show 2 * 0 + _ ≤ _; exact Nat.le_of_eq rfl) (by decide)
  refine own_st st1 ?_
  show own_Go p e below K (T1.setTop (mkF m 4 #[own_R a1, own_N, own_N] []))
  refine own_xaloadN X1 hx hby d39_4 rfl rfl ?_
  obtain ⟨T2, X2, e2, st2⟩ := getS2 X1 hx hZ hown (host := "") (Or.inl (own_w hw 319 rfl)) Via.refl e1 (HP.2.2.2.1.ext P6.2) (g := (mkF m 5 #[own_R a1, own_N, own_N] [(.ref a1)])) rfl (hb hby d39_5)
  refine own_st st2 ?_
  obtain ⟨T3, h3, X3, e3, W3, st3⟩ := putF X2 hx hZ hown (host := "") (Or.inl (own_w hw 321 rfl)) Via.refl e2 P1 P0 (Or.inl (own_w hw 322 rfl)) (own_w hw 313 rfl) (ty := (.array (.object "com/example/deferline/deferline/books/AccountBooks$Units"))) (by decide) rfl rfl (g := (mkF m 8 #[own_R a1, own_N, own_N] [(.ref (xx 3)), (.ref a1)])) rfl rfl (hb hby d39_8)
  have fw3 : Fld Z h3 a1 own_cB "held" "[Lcom/example/deferline/deferline/books/AccountBooks$Units;" (.ref (xx 3)) := P1.same W3
  have f4 := P0.wr W3
  have f5 := P2.other W3 (Or.inr (slot_ne (Or.inr (own_w hw 329 rfl)) (Or.inl (own_w hw 322 rfl)) (by decide) (t := (.object "java/util/List")) (t' := (.array (.object "com/example/deferline/deferline/books/AccountBooks$Units"))) (by decide) (by decide)))
  have f6 := P3.other W3 (Or.inr (slot_ne (Or.inr (own_w hw 331 rfl)) (Or.inl (own_w hw 322 rfl)) (by decide) (t := (.object own_cD)) (t' := (.array (.object "com/example/deferline/deferline/books/AccountBooks$Units"))) (by decide) (by decide)))
  have f7 := P4.other W3 (Or.inr (slot_ne (Or.inr (own_w hw 333 rfl)) (Or.inl (own_w hw 322 rfl)) (by decide) (t := (.object "com/example/deferline/deferline/market/Funds")) (t' := (.array (.object "com/example/deferline/deferline/books/AccountBooks$Units"))) (by decide) (by decide)))
  have f8 := P5.other W3 (Or.inr (slot_ne (Or.inr (own_w hw 335 rfl)) (Or.inl (own_w hw 322 rfl)) (by decide) (t := (.object "com/example/deferline/deferline/market/TradingCalendar")) (t' := (.array (.object "com/example/deferline/deferline/books/AccountBooks$Units"))) (by decide) (by decide)))
  have f9 := P6.wr W3 g_a1
  have N3 := Fr.snoc X3 N0 g_a1
  have Z3 := Nat.le_trans Z0 (Keep.of_wr W3).1
  have K3 : Keep h0 h3 [a1] := (Keep.refl h0 [a1]).wr W3 (Or.inl (List.mem_of_getElem? (i := 0) rfl))
  refine own_st st3 ?_
  refine own_xaloadN X3 hx hby d39_11 rfl rfl ?_
  obtain ⟨_, T10, L10, Lc10, X10, hQ10, Nf10, st10⟩ := own_backS (cells := 0) (slots := 0) (rc := 0) (rs := 0) N3 (Jvm.LawKit.callS X3 hx (y := own_mt40) hown (mvT hZ (own_w hw 323 rfl)) (mvT hZ (own_w hw 324 rfl)) (mvT hZ (own_w hw 325 rfl)) (mvT hZ (own_w hw 326 rfl)) (by decide) (backOf (W := 1) (rm40 l Z a0 hw [] xx h3 n0 Z3 f9 (by assumption)) hZ (own_w hw 326 rfl) (own_w hw 325 rfl) (by decide) (by decide)) (g := (mkF m 12 #[own_R a1, own_N, own_N] [(.ref a1)])) rfl (by rw [hml]; rfl) (argsL := []) (rest := [(.ref a1)]) (lenOf pd_39_28 rfl) rfl (by show 2 * 0 + _ ≤ _; exact Nat.le_of_eq rfl) (hb hby d39_12) (fun _ _ => ⟨rfl, e3, (by decide : 0 + 0 ≤ _), (by decide : 0 + 0 ≤ _)⟩))
  obtain ⟨rfl, N10q, e10⟩ := hQ10
  have N10 := Nf10 N10q
  refine own_tr st10 ?_
  obtain ⟨T11, h11, X11, e11, W11, st11⟩ := putF X10 hx hZ hown (host := "") (Or.inl (own_w hw 328 rfl)) Via.refl e10 f5 f4 (Or.inr ⟨(own_w hw 329 rfl), rfl, hnm⟩) (own_w hw 313 rfl) (ty := (.object "java/util/List")) (by decide) rfl rfl (g := (mkF m 15 #[own_R a1, own_N, own_N] [(.ref (xx 4)), (.ref a1)])) rfl rfl (hb hby d39_15)
  have fw11 : Fld Z h11 a1 own_cB "entries" "Ljava/util/List;" (.ref (xx 4)) := f5.same W11
  have f12 := f4.wr W11
  have f13 := fw3.other W11 (Or.inr (slot_ne (Or.inl (own_w hw 322 rfl)) (Or.inr (own_w hw 329 rfl)) (by decide) (t := (.array (.object "com/example/deferline/deferline/books/AccountBooks$Units"))) (t' := (.object "java/util/List")) (by decide) (by decide)))
  have f14 := f6.other W11 (Or.inr (slot_ne (Or.inr (own_w hw 331 rfl)) (Or.inr (own_w hw 329 rfl)) (by decide) (t := (.object own_cD)) (t' := (.object "java/util/List")) (by decide) (by decide)))
  have f15 := f7.other W11 (Or.inr (slot_ne (Or.inr (own_w hw 333 rfl)) (Or.inr (own_w hw 329 rfl)) (by decide) (t := (.object "com/example/deferline/deferline/market/Funds")) (t' := (.object "java/util/List")) (by decide) (by decide)))
  have f16 := f8.other W11 (Or.inr (slot_ne (Or.inr (own_w hw 335 rfl)) (Or.inr (own_w hw 329 rfl)) (by decide) (t := (.object "com/example/deferline/deferline/market/TradingCalendar")) (t' := (.object "java/util/List")) (by decide) (by decide)))
  have f17 := f9.wr W11 g_a1
  have N11 := Fr.snoc X11 N10 g_a1
  have Z11 := Nat.le_trans Z3 (Keep.of_wr W11).1
  have K11 := K3.wr W11 (Or.inl (List.mem_of_getElem? (i := 0) rfl))
  refine own_st st11 ?_
  refine own_xaloadN X11 hx hby d39_18 rfl rfl ?_
  refine own_xaconstNull X11 hx hby d39_19 ?_
  obtain ⟨T18, h18, X18, e18, W18, st18⟩ := putF X11 hx hZ hown (host := "") (Or.inl (own_w hw 330 rfl)) Via.refl e11 f14 f12 (Or.inr ⟨(own_w hw 331 rfl), rfl, hnm⟩) (own_w hw 313 rfl) (ty := (.object own_cD)) (by decide) rfl rfl (g := (mkF m 20 #[own_R a1, own_N, own_N] [.null, (.ref a1)])) rfl rfl (hb hby d39_20)
  have fw18 : Fld Z h18 a1 own_cB "foldedThrough" "Ljava/time/LocalDate;" .null := f14.same W18
  have f19 := f12.wr W18
  have f20 := f13.other W18 (Or.inr (slot_ne (Or.inl (own_w hw 322 rfl)) (Or.inr (own_w hw 331 rfl)) (by decide) (t := (.array (.object "com/example/deferline/deferline/books/AccountBooks$Units"))) (t' := (.object own_cD)) (by decide) (by decide)))
  have f21 := fw11.other W18 (Or.inr (slot_ne (Or.inr (own_w hw 329 rfl)) (Or.inr (own_w hw 331 rfl)) (by decide) (t := (.object "java/util/List")) (t' := (.object own_cD)) (by decide) (by decide)))
  have f22 := f15.other W18 (Or.inr (slot_ne (Or.inr (own_w hw 333 rfl)) (Or.inr (own_w hw 331 rfl)) (by decide) (t := (.object "com/example/deferline/deferline/market/Funds")) (t' := (.object own_cD)) (by decide) (by decide)))
  have f23 := f16.other W18 (Or.inr (slot_ne (Or.inr (own_w hw 335 rfl)) (Or.inr (own_w hw 331 rfl)) (by decide) (t := (.object "com/example/deferline/deferline/market/TradingCalendar")) (t' := (.object own_cD)) (by decide) (by decide)))
  have f24 := f17.wr W18 g_a1
  have N18 := Fr.snoc X18 N11 g_a1
  have Z18 := Nat.le_trans Z11 (Keep.of_wr W18).1
  have K18 := K11.wr W18 (Or.inl (List.mem_of_getElem? (i := 0) rfl))
  refine own_st st18 ?_
  refine own_xaloadN X18 hx hby d39_23 rfl rfl ?_
  refine own_xaloadN X18 hx hby d39_24 rfl rfl ?_
  obtain ⟨T25, h25, X25, e25, W25, st25⟩ := putF X18 hx hZ hown (host := "") (Or.inl (own_w hw 332 rfl)) Via.refl e18 f22 f19 (Or.inr ⟨(own_w hw 333 rfl), rfl, hnm⟩) (own_w hw 313 rfl) (ty := (.object "com/example/deferline/deferline/market/Funds")) (by decide) rfl rfl (g := (mkF m 25 #[own_R a1, own_N, own_N] [.null, (.ref a1)])) rfl rfl (hb hby d39_25)
  have fw25 : Fld Z h25 a1 own_cB "funds" "Lcom/example/deferline/deferline/market/Funds;" .null := f22.same W25
  have f26 := f19.wr W25
  have f27 := f20.other W25 (Or.inr (slot_ne (Or.inl (own_w hw 322 rfl)) (Or.inr (own_w hw 333 rfl)) (by decide) (t := (.array (.object "com/example/deferline/deferline/books/AccountBooks$Units"))) (t' := (.object "com/example/deferline/deferline/market/Funds")) (by decide) (by decide)))
  have f28 := f21.other W25 (Or.inr (slot_ne (Or.inr (own_w hw 329 rfl)) (Or.inr (own_w hw 333 rfl)) (by decide) (t := (.object "java/util/List")) (t' := (.object "com/example/deferline/deferline/market/Funds")) (by decide) (by decide)))
  have f29 := fw18.other W25 (Or.inr (slot_ne (Or.inr (own_w hw 331 rfl)) (Or.inr (own_w hw 333 rfl)) (by decide) (t := (.object own_cD)) (t' := (.object "com/example/deferline/deferline/market/Funds")) (by decide) (by decide)))
  have f30 := f23.other W25 (Or.inr (slot_ne (Or.inr (own_w hw 335 rfl)) (Or.inr (own_w hw 333 rfl)) (by decide) (t := (.object "com/example/deferline/deferline/market/TradingCalendar")) (t' := (.object "com/example/deferline/deferline/market/Funds")) (by decide) (by decide)))
  have f31 := f24.wr W25 g_a1
  have N25 := Fr.snoc X25 N18 g_a1
  have Z25 := Nat.le_trans Z18 (Keep.of_wr W25).1
  have K25 := K18.wr W25 (Or.inl (List.mem_of_getElem? (i := 0) rfl))
  refine own_st st25 ?_
  refine own_xaloadN X25 hx hby d39_28 rfl rfl ?_
  refine own_xaloadN X25 hx hby d39_29 rfl rfl ?_
  obtain ⟨T32, h32, X32, e32, W32, st32⟩ := putF X25 hx hZ hown (host := "") (Or.inl (own_w hw 334 rfl)) Via.refl e25 f30 f26 (Or.inr ⟨(own_w hw 335 rfl), rfl, hnm⟩) (own_w hw 313 rfl) (ty := (.object "com/example/deferline/deferline/market/TradingCalendar")) (by decide) rfl rfl (g := (mkF m 30 #[own_R a1, own_N, own_N] [.null, (.ref a1)])) rfl rfl (hb hby d39_30)
  have fw32 : Fld Z h32 a1 own_cB "calendar" "Lcom/example/deferline/deferline/market/TradingCalendar;" .null := f30.same W32
  have f33 := f26.wr W32
  have f34 := f27.other W32 (Or.inr (slot_ne (Or.inl (own_w hw 322 rfl)) (Or.inr (own_w hw 335 rfl)) (by decide) (t := (.array (.object "com/example/deferline/deferline/books/AccountBooks$Units"))) (t' := (.object "com/example/deferline/deferline/market/TradingCalendar")) (by decide) (by decide)))
  have f35 := f28.other W32 (Or.inr (slot_ne (Or.inr (own_w hw 329 rfl)) (Or.inr (own_w hw 335 rfl)) (by decide) (t := (.object "java/util/List")) (t' := (.object "com/example/deferline/deferline/market/TradingCalendar")) (by decide) (by decide)))
  have f36 := f29.other W32 (Or.inr (slot_ne (Or.inr (own_w hw 331 rfl)) (Or.inr (own_w hw 335 rfl)) (by decide) (t := (.object own_cD)) (t' := (.object "com/example/deferline/deferline/market/TradingCalendar")) (by decide) (by decide)))
  have f37 := fw25.other W32 (Or.inr (slot_ne (Or.inr (own_w hw 333 rfl)) (Or.inr (own_w hw 335 rfl)) (by decide) (t := (.object "com/example/deferline/deferline/market/Funds")) (t' := (.object "com/example/deferline/deferline/market/TradingCalendar")) (by decide) (by decide)))
  have f38 := f31.wr W32 g_a1
  have N32 := Fr.snoc X32 N25 g_a1
  have Z32 := Nat.le_trans Z25 (Keep.of_wr W32).1
  have K32 := K25.wr W32 (Or.inl (List.mem_of_getElem? (i := 0) rfl))
  refine own_st st32 ?_
  obtain ⟨fs, hr, hrun, hended, hW, hsame⟩ := X32.leave (v := none) (fun _ => rfl)
  refine ⟨_, X32.returnOut hx Bd.returns (hb hby d39_33) hr, fin _ _ _ hrun hended ?_ ⟨⟨_, rfl⟩, hW, hsame.mono (by decide) (by decide)⟩⟩
  show Q39 Z a1 xx h0 n0 _ T32.heap _
  rw [e32]
  exact ⟨rfl, N32, K32, f33⟩
theorem d38_0 : decode oB38 0 = .ok (.new 118, 3) := by decide +kernel
theorem d38_3 : decode oB38 3 = .ok (.dup, 1) := by decide +kernel
theorem d38_4 : decode oB38 4 = .ok (.aload_n 0, 1) := by decide +kernel
theorem d38_5 : decode oB38 5 = .ok (.getfield 22, 3) := by decide +kernel
theorem d38_8 : decode oB38 8 = .ok (.aload_n 0, 1) := by decide +kernel
theorem d38_9 : decode oB38 9 = .ok (.getfield 26, 3) := by decide +kernel
theorem d38_12 : decode oB38 12 = .ok (.invokespecial 120, 3) := by decide +kernel
theorem d38_15 : decode oB38 15 = .ok (.areturn, 1) := by decide +kernel
theorem pn_38 : plainName own_cF = true := by first | (simp [plainName, overriddenIn]; done) | decide +kernel
theorem pd_38_27 : parseMethodDescriptor "(Lcom/example/deferline/deferline/market/Funds;Lcom/example/deferline/deferline/market/TradingCalendar;)V" = some ⟨[(.object "com/example/deferline/deferline/market/Funds"), (.object "com/example/deferline/deferline/market/TradingCalendar")], none⟩ := by decide +kernel
theorem ef_38 (m : MethodId) (x0 : Addr) : entryFrame m #[(.ref x0)] 1 = mkF m 0 #[own_R x0] [] := by first | (simp [entryFrame, mkF, argsToLocals, Value.category]; done) | rfl
def Q38 (Z : State) (a1 : Addr) (xx : Nat → Nat) (h0 : Heap) (n0 : Nat) (v : Option Value) (h : Heap) (L : List Loc) : Prop := ∃ (r : Addr), v = some (.ref r) ∧ (True) ∧ h0.size ≤ r ∧ Fr n0 L ∧ Keep h0 h [] ∧ (Exa Z h r own_cB)
theorem rm38 (l : Launch) (Z : State) (a0 : Array Value) (hw : ∀ d ∈ tables_1, d.before a0 Z = true) (ws_ : List Jvm.Cond) (a1 : Addr) (xx : Nat → Nat) (h0 : Heap) (n0 : Nat) (Z0 : n0 ≤ h0.size) (P0 : Exa Z h0 a1 own_cF) (P1 : Fld Z h0 a1 own_cF "funds" "Lcom/example/deferline/deferline/market/Funds;" .null) (P2 : Fld Z h0 a1 own_cF "calendar" "Lcom/example/deferline/deferline/market/TradingCalendar;" .null) (P3 : Old Z n0 h0) (HP : own_P Z xx) :
    own_Met l own_mt38 oB38 1 (some (.object own_cB)) ws_ ({ frames := 2, cells := 1, slots := 7, locals := 27 } : Room) #[(.ref a1)] Z h0 (Q38 Z a1 xx h0 n0) := by
  refine own_met n0 (plainFor_of_name pn_38) (fun m => ef_38 m a1) ?_
  intro p e s m below meth c s₁ Bd hZ hx hby hml hown' hnm X0 e0 N0 K fin
  have hown : s.vm.findClass own_cF = some m.cls := hown'
  show own_Go p e below K (s₁.setTop (mkF m 0 #[own_R a1] []))
  obtain ⟨T1, h1, X1, e1, E1, A1, D1, -, st1⟩ := newO X0 hx hZ hown (own_w hw 312 rfl) (own_w hw 313 rfl) (own_w hw 314 rfl) e0 (g := (mkF m 0 #[own_R a1] [])) rfl (hb hby d38_0) (by decide) (by decide)
  obtain ⟨b1, g1⟩ : ∃ z, z = h0.size := ⟨_, rfl⟩
  rw [← g1] at A1 D1 st1
  have ne_a1_b1 : a1 ≠ b1 := Nat.ne_of_lt (Nat.lt_of_lt_of_le P0.lt (Nat.le_of_eq g1.symm))
  have g_b1 : n0 ≤ b1 := Nat.le_trans Z0 (Nat.le_of_eq g1.symm)
  have sz_b1 : h0.size ≤ b1 := Nat.le_trans (Keep.refl h0 []).1 (Nat.le_of_eq g1.symm)
  have f2 := P0.ext E1
  have f3 := P1.ext E1
  have f4 := P2.ext E1
  have f5 := P3.ext E1
  have f6 : Fld Z h1 b1 own_cB "held" "[Lcom/example/deferline/deferline/books/AccountBooks$Units;" .null := D1 (Or.inl (own_w hw 322 rfl)) (ty := (.array (.object "com/example/deferline/deferline/books/AccountBooks$Units"))) (by decide)
  have f7 : Fld Z h1 b1 own_cB "entries" "Ljava/util/List;" .null := D1 (Or.inr (own_w hw 329 rfl)) (ty := (.object "java/util/List")) (by decide)
  have f8 : Fld Z h1 b1 own_cB "foldedThrough" "Ljava/time/LocalDate;" .null := D1 (Or.inr (own_w hw 331 rfl)) (ty := (.object own_cD)) (by decide)
  have f9 : Fld Z h1 b1 own_cB "funds" "Lcom/example/deferline/deferline/market/Funds;" .null := D1 (Or.inr (own_w hw 333 rfl)) (ty := (.object "com/example/deferline/deferline/market/Funds")) (by decide)
  have f10 : Fld Z h1 b1 own_cB "calendar" "Lcom/example/deferline/deferline/market/TradingCalendar;" .null := D1 (Or.inr (own_w hw 335 rfl)) (ty := (.object "com/example/deferline/deferline/market/TradingCalendar")) (by decide)
  have Z1 := Nat.le_trans Z0 E1.1
  have K1 : Keep h0 h1 [] := (Keep.refl h0 []).ext E1
  refine own_st st1 ?_
  refine own_xdup X1 hx hby d38_3 rfl ?_
  refine own_xaloadN X1 hx hby d38_4 rfl rfl ?_
  obtain ⟨T11, X11, e11, st11⟩ := getF X1 hx hZ hown (host := "") (Or.inl (own_w hw 159 rfl)) Via.refl e1 f3 (g := (mkF m 5 #[own_R a1] [(.ref a1), (.ref b1), (.ref b1)])) rfl rfl (hb hby d38_5)
  refine own_st st11 ?_
  refine own_xaloadN X11 hx hby d38_8 rfl rfl ?_
  obtain ⟨T12, X12, e12, st12⟩ := getF X11 hx hZ hown (host := "") (Or.inl (own_w hw 161 rfl)) Via.refl e11 f4 (g := (mkF m 9 #[own_R a1] [(.ref a1), .null, (.ref b1), (.ref b1)])) rfl rfl (hb hby d38_9)
  refine own_st st12 ?_
  obtain ⟨_, T13, L13, Lc13, X13, hQ13, Nf13, st13⟩ := own_back (cells := 1) (slots := 7) (rc := 0) (rs := 0) N0 (X12.specialBack hx (y := own_mt39) rfl hown (mvT hZ (own_w hw 315 rfl)) (mvT hZ (own_w hw 316 rfl)) (mvT hZ (own_w hw 317 rfl)) (by decide) (backOf (W := 1) (rm39 l Z a0 hw [] b1 xx h1 n0 Z1 g_b1 A1 f6 f7 f8 f9 f10 f5 (by assumption)) hZ (own_w hw 317 rfl) (own_w hw 314 rfl) (by decide) (by decide)) (g := (mkF m 12 #[own_R a1] [.null, .null, (.ref b1), (.ref b1)])) rfl (by rw [hml]; rfl) (Steps.refl _) (a := b1) (argsL := [.null, .null]) (rest := [(.ref b1)]) (lenOf pd_38_27 rfl) rfl (by show 2 * 0 + _ ≤ _; exact Nat.le_of_eq rfl) (hb hby d38_12) (fun _ _ => ⟨rfl, e12, (by decide : 1 + 0 ≤ _), (by decide : 7 + 0 ≤ _)⟩))
  obtain ⟨rfl, N13q, Kq13, p13_0⟩ := hQ13
  have N13 := Nf13 N13q
  have f14 := f2.keep Kq13
  have f15 := f3.keep Kq13 (ninS ne_a1_b1 nin0)
  have f16 := f4.keep Kq13 (ninS ne_a1_b1 nin0)
  have f17 := f5.keep Kq13 (allS (P := fun x => n0 ≤ x) g_b1 all0)
  have Z13 := Nat.le_trans Z1 Kq13.1
  have K13 := K1.trans Kq13 (allS (P := fun x => x ∈ [] ∨ h0.size ≤ x) (Or.inr sz_b1) all0)
  refine own_tr st13 ?_
  obtain ⟨fs, hr, hrun, hended, hW, hsame⟩ := X13.leave (v := some (.ref b1)) (fun h => by rw [Bd.returns] at h; cases h)
  refine ⟨_, X13.areturnOut hx rfl Bd.returns rfl (hb hby d38_15) hr, fin _ _ _ hrun hended ?_ ⟨⟨_, rfl⟩, hW, hsame.mono (by decide) (by decide)⟩⟩
  show Q38 Z a1 xx h0 n0 _ T13.heap _
  exact ⟨_, rfl, trivial, sz_b1, N13, K13, p13_0⟩
theorem d19_0 : decode oB19 0 = .ok (.aload_n 0, 1) := by decide +kernel
theorem d19_1 : decode oB19 1 = .ok (.invokespecial 13, 3) := by decide +kernel
theorem d19_4 : decode oB19 4 = .ok (.aload_n 0, 1) := by decide +kernel
theorem d19_5 : decode oB19 5 = .ok (.aload_n 1, 1) := by decide +kernel
theorem d19_6 : decode oB19 6 = .ok (.putfield 18, 3) := by decide +kernel
theorem d19_9 : decode oB19 9 = .ok (.aload_n 0, 1) := by decide +kernel
theorem d19_10 : decode oB19 10 = .ok (.aload_n 2, 1) := by decide +kernel
theorem d19_11 : decode oB19 11 = .ok (.putfield 22, 3) := by decide +kernel
theorem d19_14 : decode oB19 14 = .ok (.aload_n 0, 1) := by decide +kernel
theorem d19_15 : decode oB19 15 = .ok (.aload_n 3, 1) := by decide +kernel
theorem d19_16 : decode oB19 16 = .ok (.putfield 26, 3) := by decide +kernel
theorem d19_19 : decode oB19 19 = .ok (.aload_n 0, 1) := by decide +kernel
theorem d19_20 : decode oB19 20 = .ok (.aload 4, 2) := by decide +kernel
theorem d19_22 : decode oB19 22 = .ok (.putfield 30, 3) := by decide +kernel
theorem d19_25 : decode oB19 25 = .ok (.return_, 1) := by decide +kernel
theorem pn_19 : plainName own_cF = true := by first | (simp [plainName, overriddenIn]; done) | decide +kernel
theorem ef_19 (m : MethodId) (x0 : Addr) (x4 : Addr) : entryFrame m #[(.ref x0), .null, .null, .null, (.ref x4)] 5 = mkF m 0 #[own_R x0, own_N, own_N, own_N, own_R x4] [] := by first | (simp [entryFrame, mkF, argsToLocals, Value.category]; done) | rfl
def Q19 (Z : State) (a1 : Addr) (a5 : Addr) (h0 : Heap) (n0 : Nat) (v : Option Value) (h : Heap) (L : List Loc) : Prop := v = none ∧ Fr n0 L ∧ Keep h0 h [a1] ∧ (Exa Z h a1 own_cF) ∧ (Fld Z h a1 own_cF "funds" "Lcom/example/deferline/deferline/market/Funds;" .null) ∧ (Fld Z h a1 own_cF "calendar" "Lcom/example/deferline/deferline/market/TradingCalendar;" .null)
theorem rm19 (l : Launch) (Z : State) (a0 : Array Value) (hw : ∀ d ∈ tables_1, d.before a0 Z = true) (ws_ : List Jvm.Cond) (a1 : Addr) (a5 : Addr) (h0 : Heap) (n0 : Nat) (Z0 : n0 ≤ h0.size) (g_a1 : n0 ≤ a1) (P0 : Exa Z h0 a1 own_cF) (P1 : Fld Z h0 a1 own_cF "funds" "Lcom/example/deferline/deferline/market/Funds;" .null) (P2 : Fld Z h0 a1 own_cF "calendar" "Lcom/example/deferline/deferline/market/TradingCalendar;" .null) (P3 : Fld Z h0 a1 own_cF "through" "Ljava/time/LocalDate;" .null) (P4 : Fld Z h0 a1 own_cF "participantsKeptWhole" "Ljava/util/Set;" .null) :
    own_Met l own_mt19 oB19 5 none ws_ ({ frames := 1, cells := 0, slots := 0, locals := 12 } : Room) #[(.ref a1), .null, .null, .null, (.ref a5)] Z h0 (Q19 Z a1 a5 h0 n0) := by
  refine own_met n0 (plainFor_of_name pn_19) (fun m => ef_19 m a1 a5) ?_
  intro p e s m below meth c s₁ Bd hZ hx hby hml hown' hnm X0 e0 N0 K fin
  have hown : s.vm.findClass own_cF = some m.cls := hown'
  show own_Go p e below K (s₁.setTop (mkF m 0 #[own_R a1, own_N, own_N, own_N, own_R a5] []))
  refine own_xaloadN X0 hx hby d19_0 rfl rfl ?_
  obtain ⟨T1, X1, e1, st1⟩ := initO X0 hx hZ hown (own_w hw 156 rfl) (own_w hw 12 rfl) (own_w hw 13 rfl) e0 (g := (mkF m 1 #[own_R a1, own_N, own_N, own_N, own_R a5] [(.ref a1)])) rfl (by rw [hml]; rfl) rfl (hb hby d19_1) (by decide) (W := 0) (by show 2 * 0 + _ ≤ _; exact Nat.le_of_eq rfl) (by decide)
  refine own_st st1 ?_
  show own_Go p e below K (T1.setTop (mkF m 4 #[own_R a1, own_N, own_N, own_N, own_R a5] []))
  refine own_xaloadN X1 hx hby d19_4 rfl rfl ?_
  refine own_xaloadN X1 hx hby d19_5 rfl rfl ?_
  obtain ⟨T2, h2, X2, e2, W2, st2⟩ := putF X1 hx hZ hown (host := "") (Or.inl (own_w hw 157 rfl)) Via.refl e1 P3 P0 (Or.inr ⟨(own_w hw 158 rfl), rfl, hnm⟩) (own_w hw 142 rfl) (ty := (.object own_cD)) (by decide) rfl rfl (g := (mkF m 6 #[own_R a1, own_N, own_N, own_N, own_R a5] [.null, (.ref a1)])) rfl rfl (hb hby d19_6)
  have fw2 : Fld Z h2 a1 own_cF "through" "Ljava/time/LocalDate;" .null := P3.same W2
  have f3 := P0.wr W2
  have f4 := P1.other W2 (Or.inr (slot_ne (Or.inr (own_w hw 160 rfl)) (Or.inr (own_w hw 158 rfl)) (by decide) (t := (.object "com/example/deferline/deferline/market/Funds")) (t' := (.object own_cD)) (by decide) (by decide)))
  have f5 := P2.other W2 (Or.inr (slot_ne (Or.inr (own_w hw 162 rfl)) (Or.inr (own_w hw 158 rfl)) (by decide) (t := (.object "com/example/deferline/deferline/market/TradingCalendar")) (t' := (.object own_cD)) (by decide) (by decide)))
  have f6 := P4.other W2 (Or.inr (slot_ne (Or.inr (own_w hw 164 rfl)) (Or.inr (own_w hw 158 rfl)) (by decide) (t := (.object "java/util/Set")) (t' := (.object own_cD)) (by decide) (by decide)))
  have N2 := Fr.snoc X2 N0 g_a1
  have Z2 := Nat.le_trans Z0 (Keep.of_wr W2).1
  have K2 : Keep h0 h2 [a1] := (Keep.refl h0 [a1]).wr W2 (Or.inl (List.mem_of_getElem? (i := 0) rfl))
  refine own_st st2 ?_
  refine own_xaloadN X2 hx hby d19_9 rfl rfl ?_
  refine own_xaloadN X2 hx hby d19_10 rfl rfl ?_
  obtain ⟨T7, h7, X7, e7, W7, st7⟩ := putF X2 hx hZ hown (host := "") (Or.inl (own_w hw 159 rfl)) Via.refl e2 f4 f3 (Or.inr ⟨(own_w hw 160 rfl), rfl, hnm⟩) (own_w hw 142 rfl) (ty := (.object "com/example/deferline/deferline/market/Funds")) (by decide) rfl rfl (g := (mkF m 11 #[own_R a1, own_N, own_N, own_N, own_R a5] [.null, (.ref a1)])) rfl rfl (hb hby d19_11)
  have fw7 : Fld Z h7 a1 own_cF "funds" "Lcom/example/deferline/deferline/market/Funds;" .null := f4.same W7
  have f8 := f3.wr W7
  have f9 := f5.other W7 (Or.inr (slot_ne (Or.inr (own_w hw 162 rfl)) (Or.inr (own_w hw 160 rfl)) (by decide) (t := (.object "com/example/deferline/deferline/market/TradingCalendar")) (t' := (.object "com/example/deferline/deferline/market/Funds")) (by decide) (by decide)))
  have f10 := fw2.other W7 (Or.inr (slot_ne (Or.inr (own_w hw 158 rfl)) (Or.inr (own_w hw 160 rfl)) (by decide) (t := (.object own_cD)) (t' := (.object "com/example/deferline/deferline/market/Funds")) (by decide) (by decide)))
  have f11 := f6.other W7 (Or.inr (slot_ne (Or.inr (own_w hw 164 rfl)) (Or.inr (own_w hw 160 rfl)) (by decide) (t := (.object "java/util/Set")) (t' := (.object "com/example/deferline/deferline/market/Funds")) (by decide) (by decide)))
  have N7 := Fr.snoc X7 N2 g_a1
  have Z7 := Nat.le_trans Z2 (Keep.of_wr W7).1
  have K7 := K2.wr W7 (Or.inl (List.mem_of_getElem? (i := 0) rfl))
  refine own_st st7 ?_
  refine own_xaloadN X7 hx hby d19_14 rfl rfl ?_
  refine own_xaloadN X7 hx hby d19_15 rfl rfl ?_
  obtain ⟨T12, h12, X12, e12, W12, st12⟩ := putF X7 hx hZ hown (host := "") (Or.inl (own_w hw 161 rfl)) Via.refl e7 f9 f8 (Or.inr ⟨(own_w hw 162 rfl), rfl, hnm⟩) (own_w hw 142 rfl) (ty := (.object "com/example/deferline/deferline/market/TradingCalendar")) (by decide) rfl rfl (g := (mkF m 16 #[own_R a1, own_N, own_N, own_N, own_R a5] [.null, (.ref a1)])) rfl rfl (hb hby d19_16)
  have fw12 : Fld Z h12 a1 own_cF "calendar" "Lcom/example/deferline/deferline/market/TradingCalendar;" .null := f9.same W12
  have f13 := f8.wr W12
  have f14 := fw7.other W12 (Or.inr (slot_ne (Or.inr (own_w hw 160 rfl)) (Or.inr (own_w hw 162 rfl)) (by decide) (t := (.object "com/example/deferline/deferline/market/Funds")) (t' := (.object "com/example/deferline/deferline/market/TradingCalendar")) (by decide) (by decide)))
  have f15 := f10.other W12 (Or.inr (slot_ne (Or.inr (own_w hw 158 rfl)) (Or.inr (own_w hw 162 rfl)) (by decide) (t := (.object own_cD)) (t' := (.object "com/example/deferline/deferline/market/TradingCalendar")) (by decide) (by decide)))
  have f16 := f11.other W12 (Or.inr (slot_ne (Or.inr (own_w hw 164 rfl)) (Or.inr (own_w hw 162 rfl)) (by decide) (t := (.object "java/util/Set")) (t' := (.object "com/example/deferline/deferline/market/TradingCalendar")) (by decide) (by decide)))
  have N12 := Fr.snoc X12 N7 g_a1
  have Z12 := Nat.le_trans Z7 (Keep.of_wr W12).1
  have K12 := K7.wr W12 (Or.inl (List.mem_of_getElem? (i := 0) rfl))
  refine own_st st12 ?_
  refine own_xaloadN X12 hx hby d19_19 rfl rfl ?_
  refine own_xaload X12 hx hby d19_20 rfl rfl ?_
  obtain ⟨T17, h17, X17, e17, W17, st17⟩ := putF X12 hx hZ hown (host := "") (Or.inl (own_w hw 163 rfl)) Via.refl e12 f16 f13 (Or.inr ⟨(own_w hw 164 rfl), rfl, hnm⟩) (own_w hw 142 rfl) (ty := (.object "java/util/Set")) (by decide) rfl rfl (g := (mkF m 22 #[own_R a1, own_N, own_N, own_N, own_R a5] [(.ref a5), (.ref a1)])) rfl rfl (hb hby d19_22)
  have fw17 : Fld Z h17 a1 own_cF "participantsKeptWhole" "Ljava/util/Set;" (.ref a5) := f16.same W17
  have f18 := f13.wr W17
  have f19 := f14.other W17 (Or.inr (slot_ne (Or.inr (own_w hw 160 rfl)) (Or.inr (own_w hw 164 rfl)) (by decide) (t := (.object "com/example/deferline/deferline/market/Funds")) (t' := (.object "java/util/Set")) (by decide) (by decide)))
  have f20 := fw12.other W17 (Or.inr (slot_ne (Or.inr (own_w hw 162 rfl)) (Or.inr (own_w hw 164 rfl)) (by decide) (t := (.object "com/example/deferline/deferline/market/TradingCalendar")) (t' := (.object "java/util/Set")) (by decide) (by decide)))
  have f21 := f15.other W17 (Or.inr (slot_ne (Or.inr (own_w hw 158 rfl)) (Or.inr (own_w hw 164 rfl)) (by decide) (t := (.object own_cD)) (t' := (.object "java/util/Set")) (by decide) (by decide)))
  have N17 := Fr.snoc X17 N12 g_a1
  have Z17 := Nat.le_trans Z12 (Keep.of_wr W17).1
  have K17 := K12.wr W17 (Or.inl (List.mem_of_getElem? (i := 0) rfl))
  refine own_st st17 ?_
  obtain ⟨fs, hr, hrun, hended, hW, hsame⟩ := X17.leave (v := none) (fun _ => rfl)
  refine ⟨_, X17.returnOut hx Bd.returns (hb hby d19_25) hr, fin _ _ _ hrun hended ?_ ⟨⟨_, rfl⟩, hW, hsame.mono (by decide) (by decide)⟩⟩
  show Q19 Z a1 a5 h0 n0 _ T17.heap _
  rw [e17]
  exact ⟨rfl, N17, K17, f18, f19, f20⟩
theorem d17_0 : decode oB17 0 = .ok (.aload_n 0, 1) := by decide +kernel
theorem d17_1 : decode oB17 1 = .ok (.aload_n 1, 1) := by decide +kernel
theorem d17_2 : decode oB17 2 = .ok (.aload_n 2, 1) := by decide +kernel
theorem d17_3 : decode oB17 3 = .ok (.aload_n 3, 1) := by decide +kernel
theorem d17_4 : decode oB17 4 = .ok (.invokestatic 1, 3) := by decide +kernel
theorem d17_7 : decode oB17 7 = .ok (.invokespecial 7, 3) := by decide +kernel
theorem d17_10 : decode oB17 10 = .ok (.return_, 1) := by decide +kernel
theorem pn_17 : plainName own_cF = true := by first | (simp [plainName, overriddenIn]; done) | decide +kernel
theorem pd_17_13 : parseMethodDescriptor "()Ljava/util/Set;" = some ⟨[], some (.object "java/util/Set")⟩ := by decide +kernel
theorem pd_17_14 : parseMethodDescriptor "(Ljava/time/LocalDate;Lcom/example/deferline/deferline/market/Funds;Lcom/example/deferline/deferline/market/TradingCalendar;Ljava/util/Set;)V" = some ⟨[(.object own_cD), (.object "com/example/deferline/deferline/market/Funds"), (.object "com/example/deferline/deferline/market/TradingCalendar"), (.object "java/util/Set")], none⟩ := by decide +kernel
theorem ef_17 (m : MethodId) (x0 : Addr) : entryFrame m #[(.ref x0), .null, .null, .null] 4 = mkF m 0 #[own_R x0, own_N, own_N, own_N] [] := by first | (simp [entryFrame, mkF, argsToLocals, Value.category]; done) | rfl
def Q17 (Z : State) (a1 : Addr) (xx : Nat → Nat) (h0 : Heap) (n0 : Nat) (v : Option Value) (h : Heap) (L : List Loc) : Prop := v = none ∧ Fr n0 L ∧ Keep h0 h [a1] ∧ (Exa Z h a1 own_cF) ∧ (Fld Z h a1 own_cF "funds" "Lcom/example/deferline/deferline/market/Funds;" .null) ∧ (Fld Z h a1 own_cF "calendar" "Lcom/example/deferline/deferline/market/TradingCalendar;" .null)
theorem rm17 (l : Launch) (Z : State) (a0 : Array Value) (hw : ∀ d ∈ tables_1, d.before a0 Z = true) (ws_ : List Jvm.Cond) (a1 : Addr) (xx : Nat → Nat) (h0 : Heap) (n0 : Nat) (Z0 : n0 ≤ h0.size) (g_a1 : n0 ≤ a1) (P0 : Exa Z h0 a1 own_cF) (P1 : Fld Z h0 a1 own_cF "funds" "Lcom/example/deferline/deferline/market/Funds;" .null) (P2 : Fld Z h0 a1 own_cF "calendar" "Lcom/example/deferline/deferline/market/TradingCalendar;" .null) (P3 : Fld Z h0 a1 own_cF "through" "Ljava/time/LocalDate;" .null) (P4 : Fld Z h0 a1 own_cF "participantsKeptWhole" "Ljava/util/Set;" .null) (P5 : Old Z n0 h0) (HP : own_P Z xx) :
    own_Met l own_mt17 oB17 4 none ws_ ({ frames := 2, cells := 0, slots := 0, locals := 28 } : Room) #[(.ref a1), .null, .null, .null] Z h0 (Q17 Z a1 xx h0 n0) := by
  refine own_met n0 (plainFor_of_name pn_17) (fun m => ef_17 m a1) ?_
  intro p e s m below meth c s₁ Bd hZ hx hby hml hown' hnm X0 e0 N0 K fin
  have hown : s.vm.findClass own_cF = some m.cls := hown'
  show own_Go p e below K (s₁.setTop (mkF m 0 #[own_R a1, own_N, own_N, own_N] []))
  refine own_xaloadN X0 hx hby d17_0 rfl rfl ?_
  refine own_xaloadN X0 hx hby d17_1 rfl rfl ?_
  refine own_xaloadN X0 hx hby d17_2 rfl rfl ?_
  refine own_xaloadN X0 hx hby d17_3 rfl rfl ?_
  obtain ⟨_, T1, L1, Lc1, X1, hQ1, Nf1, st1⟩ := own_backS (cells := 0) (slots := 0) (rc := 0) (rs := 0) N0 (Jvm.LawKit.callS X0 hx (y := own_mt18) hown (mvT hZ (own_w hw 147 rfl)) (mvT hZ (own_w hw 148 rfl)) (mvT hZ (own_w hw 149 rfl)) (mvT hZ (own_w hw 150 rfl)) (by decide) (backOf (W := 4) (rm18 l Z a0 hw [] xx h0 n0 Z0 P5 (by assumption)) hZ (own_w hw 150 rfl) (own_w hw 149 rfl) (by decide) (by decide)) (g := (mkF m 4 #[own_R a1, own_N, own_N, own_N] [.null, .null, .null, (.ref a1)])) rfl (by rw [hml]; rfl) (argsL := []) (rest := [.null, .null, .null, (.ref a1)]) (lenOf pd_17_13 rfl) rfl (by show 2 * 0 + _ ≤ _; exact Nat.le_of_eq rfl) (hb hby d17_4) (fun _ _ => ⟨rfl, e0, (by decide : 0 + 0 ≤ _), (by decide : 0 + 0 ≤ _)⟩))
  obtain ⟨rfl, N1q, e1⟩ := hQ1
  have N1 := Nf1 N1q
  refine own_tr st1 ?_
  obtain ⟨_, T2, L2, Lc2, X2, hQ2, Nf2, st2⟩ := own_back (cells := 0) (slots := 0) (rc := 0) (rs := 0) N1 (X1.specialBack hx (y := own_mt19) rfl hown (mvT hZ (own_w hw 153 rfl)) (mvT hZ (own_w hw 154 rfl)) (mvT hZ (own_w hw 155 rfl)) (by decide) (backOf (W := 0) (rm19 l Z a0 hw [] a1 (xx 5) h0 n0 Z0 g_a1 P0 P1 P2 P3 P4) hZ (own_w hw 155 rfl) (own_w hw 143 rfl) (by decide) (by decide)) (g := (mkF m 7 #[own_R a1, own_N, own_N, own_N] [(.ref (xx 5)), .null, .null, .null, (.ref a1)])) rfl (by rw [hml]; rfl) (Steps.refl _) (a := a1) (argsL := [.null, .null, .null, (.ref (xx 5))]) (rest := []) (lenOf pd_17_14 rfl) rfl (by show 2 * 0 + _ ≤ _; exact Nat.le_of_eq rfl) (hb hby d17_7) (fun _ _ => ⟨rfl, e1, (by decide : 0 + 0 ≤ _), (by decide : 0 + 0 ≤ _)⟩))
  obtain ⟨rfl, N2q, Kq2, p2_0, p2_1, p2_2⟩ := hQ2
  have N2 := Nf2 N2q
  have f3 := P5.keep Kq2 (allS (P := fun x => n0 ≤ x) g_a1 all0)
  have Z2 := Nat.le_trans Z0 Kq2.1
  have K2 : Keep h0 T2.heap [a1] := (Keep.refl h0 [a1]).trans Kq2 (allS (P := fun x => x ∈ [a1] ∨ h0.size ≤ x) (Or.inl (List.mem_of_getElem? (i := 0) rfl)) all0)
  refine own_tr st2 ?_
  obtain ⟨fs, hr, hrun, hended, hW, hsame⟩ := X2.leave (v := none) (fun _ => rfl)
  refine ⟨_, X2.returnOut hx Bd.returns (hb hby d17_10) hr, fin _ _ _ hrun hended ?_ ⟨⟨_, rfl⟩, hW, hsame.mono (by decide) (by decide)⟩⟩
  show Q17 Z a1 xx h0 n0 _ T2.heap _
  exact ⟨rfl, N2, K2, p2_0, p2_1, p2_2⟩
theorem d2_0 : decode oB2 0 = .ok (.aload_n 0, 1) := by decide +kernel
theorem d2_1 : decode oB2 1 = .ok (.invokespecial 9, 3) := by decide +kernel
theorem d2_4 : decode oB2 4 = .ok (.aload_n 0, 1) := by decide +kernel
theorem d2_5 : decode oB2 5 = .ok (.getstatic 14, 3) := by decide +kernel
theorem d2_8 : decode oB2 8 = .ok (.putfield 18, 3) := by decide +kernel
theorem d2_11 : decode oB2 11 = .ok (.aload_n 0, 1) := by decide +kernel
theorem d2_12 : decode oB2 12 = .ok (.iconst 1, 1) := by decide +kernel
theorem d2_13 : decode oB2 13 = .ok (.putfield 21, 3) := by decide +kernel
theorem d2_16 : decode oB2 16 = .ok (.aload_n 0, 1) := by decide +kernel
theorem d2_17 : decode oB2 17 = .ok (.ldc2_w 25, 3) := by decide +kernel
theorem d2_20 : decode oB2 20 = .ok (.putfield 27, 3) := by decide +kernel
theorem d2_23 : decode oB2 23 = .ok (.aload_n 0, 1) := by decide +kernel
theorem d2_24 : decode oB2 24 = .ok (.ldc2_w 25, 3) := by decide +kernel
theorem d2_27 : decode oB2 27 = .ok (.putfield 31, 3) := by decide +kernel
theorem d2_30 : decode oB2 30 = .ok (.aload_n 0, 1) := by decide +kernel
theorem d2_31 : decode oB2 31 = .ok (.ldc2_w 25, 3) := by decide +kernel
theorem d2_34 : decode oB2 34 = .ok (.putfield 34, 3) := by decide +kernel
theorem d2_37 : decode oB2 37 = .ok (.aload_n 0, 1) := by decide +kernel
theorem d2_38 : decode oB2 38 = .ok (.ldc2_w 25, 3) := by decide +kernel
theorem d2_41 : decode oB2 41 = .ok (.putfield 37, 3) := by decide +kernel
theorem d2_44 : decode oB2 44 = .ok (.aload_n 0, 1) := by decide +kernel
theorem d2_45 : decode oB2 45 = .ok (.ldc2_w 25, 3) := by decide +kernel
theorem d2_48 : decode oB2 48 = .ok (.putfield 40, 3) := by decide +kernel
theorem d2_51 : decode oB2 51 = .ok (.aload_n 0, 1) := by decide +kernel
theorem d2_52 : decode oB2 52 = .ok (.aload_n 1, 1) := by decide +kernel
theorem d2_53 : decode oB2 53 = .ok (.putfield 43, 3) := by decide +kernel
theorem d2_56 : decode oB2 56 = .ok (.aload_n 0, 1) := by decide +kernel
theorem d2_57 : decode oB2 57 = .ok (.aload_n 2, 1) := by decide +kernel
theorem d2_58 : decode oB2 58 = .ok (.putfield 47, 3) := by decide +kernel
theorem d2_61 : decode oB2 61 = .ok (.aload_n 0, 1) := by decide +kernel
theorem d2_62 : decode oB2 62 = .ok (.aload_n 3, 1) := by decide +kernel
theorem d2_63 : decode oB2 63 = .ok (.putfield 51, 3) := by decide +kernel
theorem d2_66 : decode oB2 66 = .ok (.aload_n 0, 1) := by decide +kernel
theorem d2_67 : decode oB2 67 = .ok (.aload 4, 2) := by decide +kernel
theorem d2_69 : decode oB2 69 = .ok (.putfield 55, 3) := by decide +kernel
theorem d2_72 : decode oB2 72 = .ok (.return_, 1) := by decide +kernel
theorem pn_2 : plainName own_cL = true := by first | (simp [plainName, overriddenIn]; done) | decide +kernel
theorem ef_2 (m : MethodId) (x0 : Addr) : entryFrame m #[(.ref x0), .null, .null, .null, .null] 5 = mkF m 0 #[own_R x0, own_N, own_N, own_N, own_N] [] := by first | (simp [entryFrame, mkF, argsToLocals, Value.category]; done) | rfl
def Q2 (Z : State) (a1 : Addr) (xx : Nat → Nat) (h0 : Heap) (n0 : Nat) (v : Option Value) (h : Heap) (L : List Loc) : Prop := v = none ∧ Fr n0 L ∧ Keep h0 h [a1] ∧ (Exa Z h a1 own_cL) ∧ (Fld Z h a1 own_cL "carried" own_dB .null) ∧ (Fld Z h a1 own_cL "folding" own_dF .null) ∧ (Fld Z h a1 own_cL "lastFoldedDay" "J" (.long (-9223372036854775808)))
theorem rm2 (l : Launch) (Z : State) (a0 : Array Value) (hw : ∀ d ∈ tables_1, d.before a0 Z = true) (ws_ : List Jvm.Cond) (a1 : Addr) (xx : Nat → Nat) (h0 : Heap) (n0 : Nat) (Z0 : n0 ≤ h0.size) (g_a1 : n0 ≤ a1) (P0 : Exa Z h0 a1 own_cL) (P1 : Fld Z h0 a1 own_cL "carried" own_dB .null) (P2 : Fld Z h0 a1 own_cL "folding" own_dF .null) (P3 : Fld Z h0 a1 own_cL "lastFoldedDay" "J" (.long 0)) (P4 : Old Z n0 h0) (HP : own_P Z xx) :
    own_Met l own_mt2 oB2 5 none ws_ ({ frames := 1, cells := 0, slots := 0, locals := 12 } : Room) #[(.ref a1), .null, .null, .null, .null] Z h0 (Q2 Z a1 xx h0 n0) := by
  refine own_met n0 (plainFor_of_name pn_2) (fun m => ef_2 m a1) ?_
  intro p e s m below meth c s₁ Bd hZ hx hby hml hown' hnm X0 e0 N0 K fin
  have hown : s.vm.findClass own_cL = some m.cls := hown'
  show own_Go p e below K (s₁.setTop (mkF m 0 #[own_R a1, own_N, own_N, own_N, own_N] []))
  refine own_xaloadN X0 hx hby d2_0 rfl rfl ?_
  obtain ⟨T1, X1, e1, st1⟩ := initO X0 hx hZ hown (own_w hw 11 rfl) (own_w hw 12 rfl) (own_w hw 13 rfl) e0 (g := (mkF m 1 #[own_R a1, own_N, own_N, own_N, own_N] [(.ref a1)])) rfl (by rw [hml]; rfl) rfl (hb hby d2_1) (by decide) (W := 0) (by show 2 * 0 + _ ≤ _; exact Nat.le_of_eq rfl) (by decide)
  refine own_st st1 ?_
  show own_Go p e below K (T1.setTop (mkF m 4 #[own_R a1, own_N, own_N, own_N, own_N] []))
  try clear st1
  refine own_xaloadN X1 hx hby d2_4 rfl rfl ?_
  obtain ⟨T2, X2, e2, st2⟩ := getS2 X1 hx hZ hown (host := "") (Or.inl (own_w hw 14 rfl)) Via.refl e1 (HP.2.2.1.ext P4.2) (g := (mkF m 5 #[own_R a1, own_N, own_N, own_N, own_N] [(.ref a1)])) rfl (hb hby d2_5)
  refine own_st st2 ?_
  try clear X1 e1 st2
  obtain ⟨w3, fo3⟩ := own_some (O := own_cL) (n := "entries") (d := "Ljava/util/List;") (own_w hw 3 rfl) P0 P3 (Or.inl (own_w hw 17 rfl))
  obtain ⟨T4, h4, X4, e4, W4, st4⟩ := putF X2 hx hZ hown (host := "") (Or.inl (own_w hw 16 rfl)) Via.refl e2 fo3 P0 (Or.inl (own_w hw 17 rfl)) (own_w hw 3 rfl) (ty := (.object "java/util/List")) (by decide) rfl rfl (g := (mkF m 8 #[own_R a1, own_N, own_N, own_N, own_N] [(.ref (xx 2)), (.ref a1)])) rfl rfl (hb hby d2_8)
  have f5 := P0.wr W4
  have f6 := P1.other W4 (Or.inr (slot_ne (Or.inl (own_w hw 306 rfl)) (Or.inl (own_w hw 17 rfl)) (by decide) (t := (.object own_cB)) (t' := (.object "java/util/List")) (by decide) (by decide)))
  have f7 := P2.other W4 (Or.inr (slot_ne (Or.inr (own_w hw 32 rfl)) (Or.inl (own_w hw 17 rfl)) (by decide) (t := (.object own_cF)) (t' := (.object "java/util/List")) (by decide) (by decide)))
  have f8 := P3.other W4 (Or.inr (slot_ne (Or.inl (own_w hw 22 rfl)) (Or.inl (own_w hw 17 rfl)) (by decide) (t := .long) (t' := (.object "java/util/List")) (by decide) (by decide)))
  have f9 := P4.wr W4 g_a1
  have N4 := Fr.snoc X4 N0 g_a1
  have Z4 := Nat.le_trans Z0 (Keep.of_wr W4).1
  have K4 : Keep h0 h4 [a1] := (Keep.refl h0 [a1]).wr W4 (Or.inl (List.mem_of_getElem? (i := 0) rfl))
  refine own_st st4 ?_
  try clear fo3 X2 e2 st4 P0 P1 P2 P3 P4
  refine own_xaloadN X4 hx hby d2_11 rfl rfl ?_
  refine own_xiconst X4 hx hby d2_12 1 rfl ?_
  obtain ⟨w10, fo10⟩ := own_some (O := own_cL) (n := "inOrder") (d := "Z") (own_w hw 3 rfl) f5 f8 (Or.inl (own_w hw 19 rfl))
  obtain ⟨T11, h11, X11, e11, W11, st11⟩ := putFN X4 hx hZ hown (own_w hw 18 rfl) Via.refl e4 fo10 f5 (Or.inl (own_w hw 19 rfl)) (own_w hw 3 rfl) (ty := .boolean) (v' := .int ((1 : Int32) &&& 1)) (by decide) rfl (fits_nar_bool _) (g := (mkF m 13 #[own_R a1, own_N, own_N, own_N, own_N] [(.int 1), (.ref a1)])) rfl rfl (hb hby d2_13)
  have f12 := f5.wr W11
  have f13 := f6.other W11 (Or.inr (slot_ne (Or.inl (own_w hw 306 rfl)) (Or.inl (own_w hw 19 rfl)) (by decide) (t := (.object own_cB)) (t' := .boolean) (by decide) (by decide)))
  have f14 := f7.other W11 (Or.inr (slot_ne (Or.inr (own_w hw 32 rfl)) (Or.inl (own_w hw 19 rfl)) (by decide) (t := (.object own_cF)) (t' := .boolean) (by decide) (by decide)))
  have f15 := f8.other W11 (Or.inr (slot_ne (Or.inl (own_w hw 22 rfl)) (Or.inl (own_w hw 19 rfl)) (by decide) (t := .long) (t' := .boolean) (by decide) (by decide)))
  have f16 := f9.wr W11 g_a1
  have N11 := Fr.snoc X11 N4 g_a1
  have Z11 := Nat.le_trans Z4 (Keep.of_wr W11).1
  have K11 := K4.wr W11 (Or.inl (List.mem_of_getElem? (i := 0) rfl))
  refine own_st st11 ?_
  try clear fo10 X4 e4 st11 f5 f6 f7 f8 f9
  refine own_xaloadN X11 hx hby d2_16 rfl rfl ?_
  refine own_st (X11.ldc2Long hx hown (mvT hZ (own_w hw 20 rfl)) (g := (mkF m 17 #[own_R a1, own_N, own_N, own_N, own_N] [(.ref a1)])) rfl (hb hby d2_17)) ?_
  obtain ⟨T17, h17, X17, e17, W17, st17⟩ := putF X11 hx hZ hown (host := "") (Or.inl (own_w hw 21 rfl)) Via.refl e11 f15 f12 (Or.inl (own_w hw 22 rfl)) (own_w hw 3 rfl) (ty := .long) (by decide) rfl rfl (g := (mkF m 20 #[own_R a1, own_N, own_N, own_N, own_N] [(.long (-9223372036854775808)), (.ref a1)])) rfl rfl (hb hby d2_20)
  have fw17 : Fld Z h17 a1 own_cL "lastFoldedDay" "J" (.long (-9223372036854775808)) := f15.same W17
  have f18 := f12.wr W17
  have f19 := f13.other W17 (Or.inr (slot_ne (Or.inl (own_w hw 306 rfl)) (Or.inl (own_w hw 22 rfl)) (by decide) (t := (.object own_cB)) (t' := .long) (by decide) (by decide)))
  have f20 := f14.other W17 (Or.inr (slot_ne (Or.inr (own_w hw 32 rfl)) (Or.inl (own_w hw 22 rfl)) (by decide) (t := (.object own_cF)) (t' := .long) (by decide) (by decide)))
  have f21 := f16.wr W17 g_a1
  have N17 := Fr.snoc X17 N11 g_a1
  have Z17 := Nat.le_trans Z11 (Keep.of_wr W17).1
  have K17 := K11.wr W17 (Or.inl (List.mem_of_getElem? (i := 0) rfl))
  refine own_st st17 ?_
  try clear X11 e11 st17 f12 f13 f14 f16
  refine own_xaloadN X17 hx hby d2_23 rfl rfl ?_
  refine own_st (X17.ldc2Long hx hown (mvT hZ (own_w hw 20 rfl)) (g := (mkF m 24 #[own_R a1, own_N, own_N, own_N, own_N] [(.ref a1)])) rfl (hb hby d2_24)) ?_
  obtain ⟨w22, fo22⟩ := own_some (O := own_cL) (n := "lastMoveFoldedDay") (d := "J") (own_w hw 3 rfl) f18 fw17 (Or.inl (own_w hw 24 rfl))
  obtain ⟨T23, h23, X23, e23, W23, st23⟩ := putF X17 hx hZ hown (host := "") (Or.inl (own_w hw 23 rfl)) Via.refl e17 fo22 f18 (Or.inl (own_w hw 24 rfl)) (own_w hw 3 rfl) (ty := .long) (by decide) rfl rfl (g := (mkF m 27 #[own_R a1, own_N, own_N, own_N, own_N] [(.long (-9223372036854775808)), (.ref a1)])) rfl rfl (hb hby d2_27)
  have f24 := f18.wr W23
  have f25 := f19.other W23 (Or.inr (slot_ne (Or.inl (own_w hw 306 rfl)) (Or.inl (own_w hw 24 rfl)) (by decide) (t := (.object own_cB)) (t' := .long) (by decide) (by decide)))
  have f26 := f20.other W23 (Or.inr (slot_ne (Or.inr (own_w hw 32 rfl)) (Or.inl (own_w hw 24 rfl)) (by decide) (t := (.object own_cF)) (t' := .long) (by decide) (by decide)))
  have f27 := fw17.other W23 (Or.inr (slot_ne (Or.inl (own_w hw 22 rfl)) (Or.inl (own_w hw 24 rfl)) (by decide) (t := .long) (t' := .long) (by decide) (by decide)))
  have f28 := f21.wr W23 g_a1
  have N23 := Fr.snoc X23 N17 g_a1
  have Z23 := Nat.le_trans Z17 (Keep.of_wr W23).1
  have K23 := K17.wr W23 (Or.inl (List.mem_of_getElem? (i := 0) rfl))
  refine own_st st23 ?_
  try clear fo22 X17 e17 st23 f18 f19 f20 fw17 f21
  refine own_xaloadN X23 hx hby d2_30 rfl rfl ?_
  refine own_st (X23.ldc2Long hx hown (mvT hZ (own_w hw 20 rfl)) (g := (mkF m 31 #[own_R a1, own_N, own_N, own_N, own_N] [(.ref a1)])) rfl (hb hby d2_31)) ?_
  obtain ⟨w29, fo29⟩ := own_some (O := own_cL) (n := "lastFixedDay") (d := "J") (own_w hw 3 rfl) f24 f27 (Or.inl (own_w hw 26 rfl))
  obtain ⟨T30, h30, X30, e30, W30, st30⟩ := putF X23 hx hZ hown (host := "") (Or.inl (own_w hw 25 rfl)) Via.refl e23 fo29 f24 (Or.inl (own_w hw 26 rfl)) (own_w hw 3 rfl) (ty := .long) (by decide) rfl rfl (g := (mkF m 34 #[own_R a1, own_N, own_N, own_N, own_N] [(.long (-9223372036854775808)), (.ref a1)])) rfl rfl (hb hby d2_34)
  have f31 := f24.wr W30
  have f32 := f25.other W30 (Or.inr (slot_ne (Or.inl (own_w hw 306 rfl)) (Or.inl (own_w hw 26 rfl)) (by decide) (t := (.object own_cB)) (t' := .long) (by decide) (by decide)))
  have f33 := f26.other W30 (Or.inr (slot_ne (Or.inr (own_w hw 32 rfl)) (Or.inl (own_w hw 26 rfl)) (by decide) (t := (.object own_cF)) (t' := .long) (by decide) (by decide)))
  have f34 := f27.other W30 (Or.inr (slot_ne (Or.inl (own_w hw 22 rfl)) (Or.inl (own_w hw 26 rfl)) (by decide) (t := .long) (t' := .long) (by decide) (by decide)))
  have f35 := f28.wr W30 g_a1
  have N30 := Fr.snoc X30 N23 g_a1
  have Z30 := Nat.le_trans Z23 (Keep.of_wr W30).1
  have K30 := K23.wr W30 (Or.inl (List.mem_of_getElem? (i := 0) rfl))
  refine own_st st30 ?_
  try clear fo29 X23 e23 st30 f24 f25 f26 f27 f28
  refine own_xaloadN X30 hx hby d2_37 rfl rfl ?_
  refine own_st (X30.ldc2Long hx hown (mvT hZ (own_w hw 20 rfl)) (g := (mkF m 38 #[own_R a1, own_N, own_N, own_N, own_N] [(.ref a1)])) rfl (hb hby d2_38)) ?_
  obtain ⟨w36, fo36⟩ := own_some (O := own_cL) (n := "lastFixedCreditDay") (d := "J") (own_w hw 3 rfl) f31 f34 (Or.inl (own_w hw 28 rfl))
  obtain ⟨T37, h37, X37, e37, W37, st37⟩ := putF X30 hx hZ hown (host := "") (Or.inl (own_w hw 27 rfl)) Via.refl e30 fo36 f31 (Or.inl (own_w hw 28 rfl)) (own_w hw 3 rfl) (ty := .long) (by decide) rfl rfl (g := (mkF m 41 #[own_R a1, own_N, own_N, own_N, own_N] [(.long (-9223372036854775808)), (.ref a1)])) rfl rfl (hb hby d2_41)
  have f38 := f31.wr W37
  have f39 := f32.other W37 (Or.inr (slot_ne (Or.inl (own_w hw 306 rfl)) (Or.inl (own_w hw 28 rfl)) (by decide) (t := (.object own_cB)) (t' := .long) (by decide) (by decide)))
  have f40 := f33.other W37 (Or.inr (slot_ne (Or.inr (own_w hw 32 rfl)) (Or.inl (own_w hw 28 rfl)) (by decide) (t := (.object own_cF)) (t' := .long) (by decide) (by decide)))
  have f41 := f34.other W37 (Or.inr (slot_ne (Or.inl (own_w hw 22 rfl)) (Or.inl (own_w hw 28 rfl)) (by decide) (t := .long) (t' := .long) (by decide) (by decide)))
  have f42 := f35.wr W37 g_a1
  have N37 := Fr.snoc X37 N30 g_a1
  have Z37 := Nat.le_trans Z30 (Keep.of_wr W37).1
  have K37 := K30.wr W37 (Or.inl (List.mem_of_getElem? (i := 0) rfl))
  refine own_st st37 ?_
  try clear fo36 X30 e30 st37 f31 f32 f33 f34 f35
  refine own_xaloadN X37 hx hby d2_44 rfl rfl ?_
  refine own_st (X37.ldc2Long hx hown (mvT hZ (own_w hw 20 rfl)) (g := (mkF m 45 #[own_R a1, own_N, own_N, own_N, own_N] [(.ref a1)])) rfl (hb hby d2_45)) ?_
  obtain ⟨w43, fo43⟩ := own_some (O := own_cL) (n := "lastFixedCompanyContributionDay") (d := "J") (own_w hw 3 rfl) f38 f41 (Or.inl (own_w hw 30 rfl))
  obtain ⟨T44, h44, X44, e44, W44, st44⟩ := putF X37 hx hZ hown (host := "") (Or.inl (own_w hw 29 rfl)) Via.refl e37 fo43 f38 (Or.inl (own_w hw 30 rfl)) (own_w hw 3 rfl) (ty := .long) (by decide) rfl rfl (g := (mkF m 48 #[own_R a1, own_N, own_N, own_N, own_N] [(.long (-9223372036854775808)), (.ref a1)])) rfl rfl (hb hby d2_48)
  have f45 := f38.wr W44
  have f46 := f39.other W44 (Or.inr (slot_ne (Or.inl (own_w hw 306 rfl)) (Or.inl (own_w hw 30 rfl)) (by decide) (t := (.object own_cB)) (t' := .long) (by decide) (by decide)))
  have f47 := f40.other W44 (Or.inr (slot_ne (Or.inr (own_w hw 32 rfl)) (Or.inl (own_w hw 30 rfl)) (by decide) (t := (.object own_cF)) (t' := .long) (by decide) (by decide)))
  have f48 := f41.other W44 (Or.inr (slot_ne (Or.inl (own_w hw 22 rfl)) (Or.inl (own_w hw 30 rfl)) (by decide) (t := .long) (t' := .long) (by decide) (by decide)))
  have f49 := f42.wr W44 g_a1
  have N44 := Fr.snoc X44 N37 g_a1
  have Z44 := Nat.le_trans Z37 (Keep.of_wr W44).1
  have K44 := K37.wr W44 (Or.inl (List.mem_of_getElem? (i := 0) rfl))
  refine own_st st44 ?_
  try clear fo43 X37 e37 st44 f38 f39 f40 f41 f42
  refine own_xaloadN X44 hx hby d2_51 rfl rfl ?_
  refine own_xaloadN X44 hx hby d2_52 rfl rfl ?_
  obtain ⟨T50, h50, X50, e50, W50, st50⟩ := putF X44 hx hZ hown (host := "") (Or.inl (own_w hw 31 rfl)) Via.refl e44 f47 f45 (Or.inr ⟨(own_w hw 32 rfl), rfl, hnm⟩) (own_w hw 3 rfl) (ty := (.object own_cF)) (by decide) rfl rfl (g := (mkF m 53 #[own_R a1, own_N, own_N, own_N, own_N] [.null, (.ref a1)])) rfl rfl (hb hby d2_53)
  have fw50 : Fld Z h50 a1 own_cL "folding" own_dF .null := f47.same W50
  have f51 := f45.wr W50
  have f52 := f46.other W50 (Or.inr (slot_ne (Or.inl (own_w hw 306 rfl)) (Or.inr (own_w hw 32 rfl)) (by decide) (t := (.object own_cB)) (t' := (.object own_cF)) (by decide) (by decide)))
  have f53 := f48.other W50 (Or.inr (slot_ne (Or.inl (own_w hw 22 rfl)) (Or.inr (own_w hw 32 rfl)) (by decide) (t := .long) (t' := (.object own_cF)) (by decide) (by decide)))
  have f54 := f49.wr W50 g_a1
  have N50 := Fr.snoc X50 N44 g_a1
  have Z50 := Nat.le_trans Z44 (Keep.of_wr W50).1
  have K50 := K44.wr W50 (Or.inl (List.mem_of_getElem? (i := 0) rfl))
  refine own_st st50 ?_
  try clear X44 e44 st50 f45 f46 f48 f49
  refine own_xaloadN X50 hx hby d2_56 rfl rfl ?_
  refine own_xaloadN X50 hx hby d2_57 rfl rfl ?_
  obtain ⟨w55, fo55⟩ := own_some (O := own_cL) (n := "posting") (d := "Lcom/example/deferline/deferline/books/Ledger$Posting;") (own_w hw 3 rfl) f51 f53 (Or.inr (own_w hw 34 rfl))
  obtain ⟨T56, h56, X56, e56, W56, st56⟩ := putF X50 hx hZ hown (host := "") (Or.inl (own_w hw 33 rfl)) Via.refl e50 fo55 f51 (Or.inr ⟨(own_w hw 34 rfl), rfl, hnm⟩) (own_w hw 3 rfl) (ty := (.object "com/example/deferline/deferline/books/Ledger$Posting")) (by decide) rfl rfl (g := (mkF m 58 #[own_R a1, own_N, own_N, own_N, own_N] [.null, (.ref a1)])) rfl rfl (hb hby d2_58)
  have f57 := f51.wr W56
  have f58 := f52.other W56 (Or.inr (slot_ne (Or.inl (own_w hw 306 rfl)) (Or.inr (own_w hw 34 rfl)) (by decide) (t := (.object own_cB)) (t' := (.object "com/example/deferline/deferline/books/Ledger$Posting")) (by decide) (by decide)))
  have f59 := fw50.other W56 (Or.inr (slot_ne (Or.inr (own_w hw 32 rfl)) (Or.inr (own_w hw 34 rfl)) (by decide) (t := (.object own_cF)) (t' := (.object "com/example/deferline/deferline/books/Ledger$Posting")) (by decide) (by decide)))
  have f60 := f53.other W56 (Or.inr (slot_ne (Or.inl (own_w hw 22 rfl)) (Or.inr (own_w hw 34 rfl)) (by decide) (t := .long) (t' := (.object "com/example/deferline/deferline/books/Ledger$Posting")) (by decide) (by decide)))
  have f61 := f54.wr W56 g_a1
  have N56 := Fr.snoc X56 N50 g_a1
  have Z56 := Nat.le_trans Z50 (Keep.of_wr W56).1
  have K56 := K50.wr W56 (Or.inl (List.mem_of_getElem? (i := 0) rfl))
  refine own_st st56 ?_
  try clear fo55 X50 e50 st56 f51 f52 fw50 f53 f54
  refine own_xaloadN X56 hx hby d2_61 rfl rfl ?_
  refine own_xaloadN X56 hx hby d2_62 rfl rfl ?_
  obtain ⟨w62, fo62⟩ := own_some (O := own_cL) (n := "participant") (d := "Lcom/example/deferline/deferline/books/Participant;") (own_w hw 3 rfl) f57 f60 (Or.inr (own_w hw 36 rfl))
  obtain ⟨T63, h63, X63, e63, W63, st63⟩ := putF X56 hx hZ hown (host := "") (Or.inl (own_w hw 35 rfl)) Via.refl e56 fo62 f57 (Or.inr ⟨(own_w hw 36 rfl), rfl, hnm⟩) (own_w hw 3 rfl) (ty := (.object "com/example/deferline/deferline/books/Participant")) (by decide) rfl rfl (g := (mkF m 63 #[own_R a1, own_N, own_N, own_N, own_N] [.null, (.ref a1)])) rfl rfl (hb hby d2_63)
  have f64 := f57.wr W63
  have f65 := f58.other W63 (Or.inr (slot_ne (Or.inl (own_w hw 306 rfl)) (Or.inr (own_w hw 36 rfl)) (by decide) (t := (.object own_cB)) (t' := (.object "com/example/deferline/deferline/books/Participant")) (by decide) (by decide)))
  have f66 := f59.other W63 (Or.inr (slot_ne (Or.inr (own_w hw 32 rfl)) (Or.inr (own_w hw 36 rfl)) (by decide) (t := (.object own_cF)) (t' := (.object "com/example/deferline/deferline/books/Participant")) (by decide) (by decide)))
  have f67 := f60.other W63 (Or.inr (slot_ne (Or.inl (own_w hw 22 rfl)) (Or.inr (own_w hw 36 rfl)) (by decide) (t := .long) (t' := (.object "com/example/deferline/deferline/books/Participant")) (by decide) (by decide)))
  have f68 := f61.wr W63 g_a1
  have N63 := Fr.snoc X63 N56 g_a1
  have Z63 := Nat.le_trans Z56 (Keep.of_wr W63).1
  have K63 := K56.wr W63 (Or.inl (List.mem_of_getElem? (i := 0) rfl))
  refine own_st st63 ?_
  show own_Go p e below K (T63.setTop (mkF m 66 #[own_R a1, own_N, own_N, own_N, own_N] []))
  try clear fo62 X56 e56 st63 f57 f58 f59 f60 f61
  refine own_xaloadN X63 hx hby d2_66 rfl rfl ?_
  refine own_xaload X63 hx hby d2_67 rfl rfl ?_
  obtain ⟨w69, fo69⟩ := own_some (O := own_cL) (n := "account") (d := "Ljava/lang/String;") (own_w hw 3 rfl) f64 f67 (Or.inr (own_w hw 38 rfl))
  obtain ⟨T70, h70, X70, e70, W70, st70⟩ := putF X63 hx hZ hown (host := "") (Or.inl (own_w hw 37 rfl)) Via.refl e63 fo69 f64 (Or.inr ⟨(own_w hw 38 rfl), rfl, hnm⟩) (own_w hw 3 rfl) (ty := (.object "java/lang/String")) (by decide) rfl rfl (g := (mkF m 69 #[own_R a1, own_N, own_N, own_N, own_N] [.null, (.ref a1)])) rfl rfl (hb hby d2_69)
  have f71 := f64.wr W70
  have f72 := f65.other W70 (Or.inr (slot_ne (Or.inl (own_w hw 306 rfl)) (Or.inr (own_w hw 38 rfl)) (by decide) (t := (.object own_cB)) (t' := (.object "java/lang/String")) (by decide) (by decide)))
  have f73 := f66.other W70 (Or.inr (slot_ne (Or.inr (own_w hw 32 rfl)) (Or.inr (own_w hw 38 rfl)) (by decide) (t := (.object own_cF)) (t' := (.object "java/lang/String")) (by decide) (by decide)))
  have f74 := f67.other W70 (Or.inr (slot_ne (Or.inl (own_w hw 22 rfl)) (Or.inr (own_w hw 38 rfl)) (by decide) (t := .long) (t' := (.object "java/lang/String")) (by decide) (by decide)))
  have f75 := f68.wr W70 g_a1
  have N70 := Fr.snoc X70 N63 g_a1
  have Z70 := Nat.le_trans Z63 (Keep.of_wr W70).1
  have K70 := K63.wr W70 (Or.inl (List.mem_of_getElem? (i := 0) rfl))
  refine own_st st70 ?_
  try clear fo69 X63 e63 st70 f64 f65 f66 f67 f68
  obtain ⟨fs, hr, hrun, hended, hW, hsame⟩ := X70.leave (v := none) (fun _ => rfl)
  refine ⟨_, X70.returnOut hx Bd.returns (hb hby d2_72) hr, fin _ _ _ hrun hended ?_ ⟨⟨_, rfl⟩, hW, hsame.mono (by decide) (by decide)⟩⟩
  show Q2 Z a1 xx h0 n0 _ T70.heap _
  rw [e70]
  exact ⟨rfl, N70, K70, f71, f72, f73, f74⟩
theorem ef_2f (m : MethodId) (x0 : Addr) (x1 : Addr) : entryFrame m #[(.ref x0), (.ref x1), .null, .null, .null] 5 = mkF m 0 #[own_R x0, own_R x1, own_N, own_N, own_N] [] := by first | (simp [entryFrame, mkF, argsToLocals, Value.category]; done) | rfl
def Q2f (Z : State) (a1 : Addr) (a2 : Addr) (xx : Nat → Nat) (h0 : Heap) (n0 : Nat) (v : Option Value) (h : Heap) (L : List Loc) : Prop := v = none ∧ Fr n0 L ∧ Keep h0 h [a1] ∧ (Exa Z h a1 own_cL) ∧ (Fld Z h a1 own_cL "carried" own_dB .null) ∧ (Fld Z h a1 own_cL "folding" own_dF (.ref a2)) ∧ (Fld Z h a1 own_cL "lastFoldedDay" "J" (.long (-9223372036854775808)))
theorem rm2f (l : Launch) (Z : State) (a0 : Array Value) (hw : ∀ d ∈ tables_1, d.before a0 Z = true) (ws_ : List Jvm.Cond) (a1 : Addr) (a2 : Addr) (xx : Nat → Nat) (h0 : Heap) (n0 : Nat) (Z0 : n0 ≤ h0.size) (g_a1 : n0 ≤ a1) (P0 : Exa Z h0 a1 own_cL) (P1 : Fld Z h0 a1 own_cL "carried" own_dB .null) (P2 : Fld Z h0 a1 own_cL "folding" own_dF .null) (P3 : Fld Z h0 a1 own_cL "lastFoldedDay" "J" (.long 0)) (P4 : Old Z n0 h0) (HP : own_P Z xx) :
    own_Met l own_mt2 oB2 5 none ws_ ({ frames := 1, cells := 0, slots := 0, locals := 12 } : Room) #[(.ref a1), (.ref a2), .null, .null, .null] Z h0 (Q2f Z a1 a2 xx h0 n0) := by
  refine own_met n0 (plainFor_of_name pn_2) (fun m => ef_2f m a1 a2) ?_
  intro p e s m below meth c s₁ Bd hZ hx hby hml hown' hnm X0 e0 N0 K fin
  have hown : s.vm.findClass own_cL = some m.cls := hown'
  show own_Go p e below K (s₁.setTop (mkF m 0 #[own_R a1, own_R a2, own_N, own_N, own_N] []))
  refine own_xaloadN X0 hx hby d2_0 rfl rfl ?_
  obtain ⟨T1, X1, e1, st1⟩ := initO X0 hx hZ hown (own_w hw 11 rfl) (own_w hw 12 rfl) (own_w hw 13 rfl) e0 (g := (mkF m 1 #[own_R a1, own_R a2, own_N, own_N, own_N] [(.ref a1)])) rfl (by rw [hml]; rfl) rfl (hb hby d2_1) (by decide) (W := 0) (by show 2 * 0 + _ ≤ _; exact Nat.le_of_eq rfl) (by decide)
  refine own_st st1 ?_
  show own_Go p e below K (T1.setTop (mkF m 4 #[own_R a1, own_R a2, own_N, own_N, own_N] []))
  try clear st1
  refine own_xaloadN X1 hx hby d2_4 rfl rfl ?_
  obtain ⟨T2, X2, e2, st2⟩ := getS2 X1 hx hZ hown (host := "") (Or.inl (own_w hw 14 rfl)) Via.refl e1 (HP.2.2.1.ext P4.2) (g := (mkF m 5 #[own_R a1, own_R a2, own_N, own_N, own_N] [(.ref a1)])) rfl (hb hby d2_5)
  refine own_st st2 ?_
  try clear X1 e1 st2
  obtain ⟨w3, fo3⟩ := own_some (O := own_cL) (n := "entries") (d := "Ljava/util/List;") (own_w hw 3 rfl) P0 P3 (Or.inl (own_w hw 17 rfl))
  obtain ⟨T4, h4, X4, e4, W4, st4⟩ := putF X2 hx hZ hown (host := "") (Or.inl (own_w hw 16 rfl)) Via.refl e2 fo3 P0 (Or.inl (own_w hw 17 rfl)) (own_w hw 3 rfl) (ty := (.object "java/util/List")) (by decide) rfl rfl (g := (mkF m 8 #[own_R a1, own_R a2, own_N, own_N, own_N] [(.ref (xx 2)), (.ref a1)])) rfl rfl (hb hby d2_8)
  have f5 := P0.wr W4
  have f6 := P1.other W4 (Or.inr (slot_ne (Or.inl (own_w hw 306 rfl)) (Or.inl (own_w hw 17 rfl)) (by decide) (t := (.object own_cB)) (t' := (.object "java/util/List")) (by decide) (by decide)))
  have f7 := P2.other W4 (Or.inr (slot_ne (Or.inr (own_w hw 32 rfl)) (Or.inl (own_w hw 17 rfl)) (by decide) (t := (.object own_cF)) (t' := (.object "java/util/List")) (by decide) (by decide)))
  have f8 := P3.other W4 (Or.inr (slot_ne (Or.inl (own_w hw 22 rfl)) (Or.inl (own_w hw 17 rfl)) (by decide) (t := .long) (t' := (.object "java/util/List")) (by decide) (by decide)))
  have f9 := P4.wr W4 g_a1
  have N4 := Fr.snoc X4 N0 g_a1
  have Z4 := Nat.le_trans Z0 (Keep.of_wr W4).1
  have K4 : Keep h0 h4 [a1] := (Keep.refl h0 [a1]).wr W4 (Or.inl (List.mem_of_getElem? (i := 0) rfl))
  refine own_st st4 ?_
  try clear fo3 X2 e2 st4 P0 P1 P2 P3 P4
  refine own_xaloadN X4 hx hby d2_11 rfl rfl ?_
  refine own_xiconst X4 hx hby d2_12 1 rfl ?_
  obtain ⟨w10, fo10⟩ := own_some (O := own_cL) (n := "inOrder") (d := "Z") (own_w hw 3 rfl) f5 f8 (Or.inl (own_w hw 19 rfl))
  obtain ⟨T11, h11, X11, e11, W11, st11⟩ := putFN X4 hx hZ hown (own_w hw 18 rfl) Via.refl e4 fo10 f5 (Or.inl (own_w hw 19 rfl)) (own_w hw 3 rfl) (ty := .boolean) (v' := .int ((1 : Int32) &&& 1)) (by decide) rfl (fits_nar_bool _) (g := (mkF m 13 #[own_R a1, own_R a2, own_N, own_N, own_N] [(.int 1), (.ref a1)])) rfl rfl (hb hby d2_13)
  have f12 := f5.wr W11
  have f13 := f6.other W11 (Or.inr (slot_ne (Or.inl (own_w hw 306 rfl)) (Or.inl (own_w hw 19 rfl)) (by decide) (t := (.object own_cB)) (t' := .boolean) (by decide) (by decide)))
  have f14 := f7.other W11 (Or.inr (slot_ne (Or.inr (own_w hw 32 rfl)) (Or.inl (own_w hw 19 rfl)) (by decide) (t := (.object own_cF)) (t' := .boolean) (by decide) (by decide)))
  have f15 := f8.other W11 (Or.inr (slot_ne (Or.inl (own_w hw 22 rfl)) (Or.inl (own_w hw 19 rfl)) (by decide) (t := .long) (t' := .boolean) (by decide) (by decide)))
  have f16 := f9.wr W11 g_a1
  have N11 := Fr.snoc X11 N4 g_a1
  have Z11 := Nat.le_trans Z4 (Keep.of_wr W11).1
  have K11 := K4.wr W11 (Or.inl (List.mem_of_getElem? (i := 0) rfl))
  refine own_st st11 ?_
  try clear fo10 X4 e4 st11 f5 f6 f7 f8 f9
  refine own_xaloadN X11 hx hby d2_16 rfl rfl ?_
  refine own_st (X11.ldc2Long hx hown (mvT hZ (own_w hw 20 rfl)) (g := (mkF m 17 #[own_R a1, own_R a2, own_N, own_N, own_N] [(.ref a1)])) rfl (hb hby d2_17)) ?_
  obtain ⟨T17, h17, X17, e17, W17, st17⟩ := putF X11 hx hZ hown (host := "") (Or.inl (own_w hw 21 rfl)) Via.refl e11 f15 f12 (Or.inl (own_w hw 22 rfl)) (own_w hw 3 rfl) (ty := .long) (by decide) rfl rfl (g := (mkF m 20 #[own_R a1, own_R a2, own_N, own_N, own_N] [(.long (-9223372036854775808)), (.ref a1)])) rfl rfl (hb hby d2_20)
  have fw17 : Fld Z h17 a1 own_cL "lastFoldedDay" "J" (.long (-9223372036854775808)) := f15.same W17
  have f18 := f12.wr W17
  have f19 := f13.other W17 (Or.inr (slot_ne (Or.inl (own_w hw 306 rfl)) (Or.inl (own_w hw 22 rfl)) (by decide) (t := (.object own_cB)) (t' := .long) (by decide) (by decide)))
  have f20 := f14.other W17 (Or.inr (slot_ne (Or.inr (own_w hw 32 rfl)) (Or.inl (own_w hw 22 rfl)) (by decide) (t := (.object own_cF)) (t' := .long) (by decide) (by decide)))
  have f21 := f16.wr W17 g_a1
  have N17 := Fr.snoc X17 N11 g_a1
  have Z17 := Nat.le_trans Z11 (Keep.of_wr W17).1
  have K17 := K11.wr W17 (Or.inl (List.mem_of_getElem? (i := 0) rfl))
  refine own_st st17 ?_
  try clear X11 e11 st17 f12 f13 f14 f16
  refine own_xaloadN X17 hx hby d2_23 rfl rfl ?_
  refine own_st (X17.ldc2Long hx hown (mvT hZ (own_w hw 20 rfl)) (g := (mkF m 24 #[own_R a1, own_R a2, own_N, own_N, own_N] [(.ref a1)])) rfl (hb hby d2_24)) ?_
  obtain ⟨w22, fo22⟩ := own_some (O := own_cL) (n := "lastMoveFoldedDay") (d := "J") (own_w hw 3 rfl) f18 fw17 (Or.inl (own_w hw 24 rfl))
  obtain ⟨T23, h23, X23, e23, W23, st23⟩ := putF X17 hx hZ hown (host := "") (Or.inl (own_w hw 23 rfl)) Via.refl e17 fo22 f18 (Or.inl (own_w hw 24 rfl)) (own_w hw 3 rfl) (ty := .long) (by decide) rfl rfl (g := (mkF m 27 #[own_R a1, own_R a2, own_N, own_N, own_N] [(.long (-9223372036854775808)), (.ref a1)])) rfl rfl (hb hby d2_27)
  have f24 := f18.wr W23
  have f25 := f19.other W23 (Or.inr (slot_ne (Or.inl (own_w hw 306 rfl)) (Or.inl (own_w hw 24 rfl)) (by decide) (t := (.object own_cB)) (t' := .long) (by decide) (by decide)))
  have f26 := f20.other W23 (Or.inr (slot_ne (Or.inr (own_w hw 32 rfl)) (Or.inl (own_w hw 24 rfl)) (by decide) (t := (.object own_cF)) (t' := .long) (by decide) (by decide)))
  have f27 := fw17.other W23 (Or.inr (slot_ne (Or.inl (own_w hw 22 rfl)) (Or.inl (own_w hw 24 rfl)) (by decide) (t := .long) (t' := .long) (by decide) (by decide)))
  have f28 := f21.wr W23 g_a1
  have N23 := Fr.snoc X23 N17 g_a1
  have Z23 := Nat.le_trans Z17 (Keep.of_wr W23).1
  have K23 := K17.wr W23 (Or.inl (List.mem_of_getElem? (i := 0) rfl))
  refine own_st st23 ?_
  try clear fo22 X17 e17 st23 f18 f19 f20 fw17 f21
  refine own_xaloadN X23 hx hby d2_30 rfl rfl ?_
  refine own_st (X23.ldc2Long hx hown (mvT hZ (own_w hw 20 rfl)) (g := (mkF m 31 #[own_R a1, own_R a2, own_N, own_N, own_N] [(.ref a1)])) rfl (hb hby d2_31)) ?_
  obtain ⟨w29, fo29⟩ := own_some (O := own_cL) (n := "lastFixedDay") (d := "J") (own_w hw 3 rfl) f24 f27 (Or.inl (own_w hw 26 rfl))
  obtain ⟨T30, h30, X30, e30, W30, st30⟩ := putF X23 hx hZ hown (host := "") (Or.inl (own_w hw 25 rfl)) Via.refl e23 fo29 f24 (Or.inl (own_w hw 26 rfl)) (own_w hw 3 rfl) (ty := .long) (by decide) rfl rfl (g := (mkF m 34 #[own_R a1, own_R a2, own_N, own_N, own_N] [(.long (-9223372036854775808)), (.ref a1)])) rfl rfl (hb hby d2_34)
  have f31 := f24.wr W30
  have f32 := f25.other W30 (Or.inr (slot_ne (Or.inl (own_w hw 306 rfl)) (Or.inl (own_w hw 26 rfl)) (by decide) (t := (.object own_cB)) (t' := .long) (by decide) (by decide)))
  have f33 := f26.other W30 (Or.inr (slot_ne (Or.inr (own_w hw 32 rfl)) (Or.inl (own_w hw 26 rfl)) (by decide) (t := (.object own_cF)) (t' := .long) (by decide) (by decide)))
  have f34 := f27.other W30 (Or.inr (slot_ne (Or.inl (own_w hw 22 rfl)) (Or.inl (own_w hw 26 rfl)) (by decide) (t := .long) (t' := .long) (by decide) (by decide)))
  have f35 := f28.wr W30 g_a1
  have N30 := Fr.snoc X30 N23 g_a1
  have Z30 := Nat.le_trans Z23 (Keep.of_wr W30).1
  have K30 := K23.wr W30 (Or.inl (List.mem_of_getElem? (i := 0) rfl))
  refine own_st st30 ?_
  try clear fo29 X23 e23 st30 f24 f25 f26 f27 f28
  refine own_xaloadN X30 hx hby d2_37 rfl rfl ?_
  refine own_st (X30.ldc2Long hx hown (mvT hZ (own_w hw 20 rfl)) (g := (mkF m 38 #[own_R a1, own_R a2, own_N, own_N, own_N] [(.ref a1)])) rfl (hb hby d2_38)) ?_
  obtain ⟨w36, fo36⟩ := own_some (O := own_cL) (n := "lastFixedCreditDay") (d := "J") (own_w hw 3 rfl) f31 f34 (Or.inl (own_w hw 28 rfl))
  obtain ⟨T37, h37, X37, e37, W37, st37⟩ := putF X30 hx hZ hown (host := "") (Or.inl (own_w hw 27 rfl)) Via.refl e30 fo36 f31 (Or.inl (own_w hw 28 rfl)) (own_w hw 3 rfl) (ty := .long) (by decide) rfl rfl (g := (mkF m 41 #[own_R a1, own_R a2, own_N, own_N, own_N] [(.long (-9223372036854775808)), (.ref a1)])) rfl rfl (hb hby d2_41)
  have f38 := f31.wr W37
  have f39 := f32.other W37 (Or.inr (slot_ne (Or.inl (own_w hw 306 rfl)) (Or.inl (own_w hw 28 rfl)) (by decide) (t := (.object own_cB)) (t' := .long) (by decide) (by decide)))
  have f40 := f33.other W37 (Or.inr (slot_ne (Or.inr (own_w hw 32 rfl)) (Or.inl (own_w hw 28 rfl)) (by decide) (t := (.object own_cF)) (t' := .long) (by decide) (by decide)))
  have f41 := f34.other W37 (Or.inr (slot_ne (Or.inl (own_w hw 22 rfl)) (Or.inl (own_w hw 28 rfl)) (by decide) (t := .long) (t' := .long) (by decide) (by decide)))
  have f42 := f35.wr W37 g_a1
  have N37 := Fr.snoc X37 N30 g_a1
  have Z37 := Nat.le_trans Z30 (Keep.of_wr W37).1
  have K37 := K30.wr W37 (Or.inl (List.mem_of_getElem? (i := 0) rfl))
  refine own_st st37 ?_
  try clear fo36 X30 e30 st37 f31 f32 f33 f34 f35
  refine own_xaloadN X37 hx hby d2_44 rfl rfl ?_
  refine own_st (X37.ldc2Long hx hown (mvT hZ (own_w hw 20 rfl)) (g := (mkF m 45 #[own_R a1, own_R a2, own_N, own_N, own_N] [(.ref a1)])) rfl (hb hby d2_45)) ?_
  obtain ⟨w43, fo43⟩ := own_some (O := own_cL) (n := "lastFixedCompanyContributionDay") (d := "J") (own_w hw 3 rfl) f38 f41 (Or.inl (own_w hw 30 rfl))
  obtain ⟨T44, h44, X44, e44, W44, st44⟩ := putF X37 hx hZ hown (host := "") (Or.inl (own_w hw 29 rfl)) Via.refl e37 fo43 f38 (Or.inl (own_w hw 30 rfl)) (own_w hw 3 rfl) (ty := .long) (by decide) rfl rfl (g := (mkF m 48 #[own_R a1, own_R a2, own_N, own_N, own_N] [(.long (-9223372036854775808)), (.ref a1)])) rfl rfl (hb hby d2_48)
  have f45 := f38.wr W44
  have f46 := f39.other W44 (Or.inr (slot_ne (Or.inl (own_w hw 306 rfl)) (Or.inl (own_w hw 30 rfl)) (by decide) (t := (.object own_cB)) (t' := .long) (by decide) (by decide)))
  have f47 := f40.other W44 (Or.inr (slot_ne (Or.inr (own_w hw 32 rfl)) (Or.inl (own_w hw 30 rfl)) (by decide) (t := (.object own_cF)) (t' := .long) (by decide) (by decide)))
  have f48 := f41.other W44 (Or.inr (slot_ne (Or.inl (own_w hw 22 rfl)) (Or.inl (own_w hw 30 rfl)) (by decide) (t := .long) (t' := .long) (by decide) (by decide)))
  have f49 := f42.wr W44 g_a1
  have N44 := Fr.snoc X44 N37 g_a1
  have Z44 := Nat.le_trans Z37 (Keep.of_wr W44).1
  have K44 := K37.wr W44 (Or.inl (List.mem_of_getElem? (i := 0) rfl))
  refine own_st st44 ?_
  try clear fo43 X37 e37 st44 f38 f39 f40 f41 f42
  refine own_xaloadN X44 hx hby d2_51 rfl rfl ?_
  refine own_xaloadN X44 hx hby d2_52 rfl rfl ?_
  obtain ⟨T50, h50, X50, e50, W50, st50⟩ := putF X44 hx hZ hown (host := "") (Or.inl (own_w hw 31 rfl)) Via.refl e44 f47 f45 (Or.inr ⟨(own_w hw 32 rfl), rfl, hnm⟩) (own_w hw 3 rfl) (ty := (.object own_cF)) (by decide) rfl rfl (g := (mkF m 53 #[own_R a1, own_R a2, own_N, own_N, own_N] [(.ref a2), (.ref a1)])) rfl rfl (hb hby d2_53)
  have fw50 : Fld Z h50 a1 own_cL "folding" own_dF (.ref a2) := f47.same W50
  have f51 := f45.wr W50
  have f52 := f46.other W50 (Or.inr (slot_ne (Or.inl (own_w hw 306 rfl)) (Or.inr (own_w hw 32 rfl)) (by decide) (t := (.object own_cB)) (t' := (.object own_cF)) (by decide) (by decide)))
  have f53 := f48.other W50 (Or.inr (slot_ne (Or.inl (own_w hw 22 rfl)) (Or.inr (own_w hw 32 rfl)) (by decide) (t := .long) (t' := (.object own_cF)) (by decide) (by decide)))
  have f54 := f49.wr W50 g_a1
  have N50 := Fr.snoc X50 N44 g_a1
  have Z50 := Nat.le_trans Z44 (Keep.of_wr W50).1
  have K50 := K44.wr W50 (Or.inl (List.mem_of_getElem? (i := 0) rfl))
  refine own_st st50 ?_
  try clear X44 e44 st50 f45 f46 f48 f49
  refine own_xaloadN X50 hx hby d2_56 rfl rfl ?_
  refine own_xaloadN X50 hx hby d2_57 rfl rfl ?_
  obtain ⟨w55, fo55⟩ := own_some (O := own_cL) (n := "posting") (d := "Lcom/example/deferline/deferline/books/Ledger$Posting;") (own_w hw 3 rfl) f51 f53 (Or.inr (own_w hw 34 rfl))
  obtain ⟨T56, h56, X56, e56, W56, st56⟩ := putF X50 hx hZ hown (host := "") (Or.inl (own_w hw 33 rfl)) Via.refl e50 fo55 f51 (Or.inr ⟨(own_w hw 34 rfl), rfl, hnm⟩) (own_w hw 3 rfl) (ty := (.object "com/example/deferline/deferline/books/Ledger$Posting")) (by decide) rfl rfl (g := (mkF m 58 #[own_R a1, own_R a2, own_N, own_N, own_N] [.null, (.ref a1)])) rfl rfl (hb hby d2_58)
  have f57 := f51.wr W56
  have f58 := f52.other W56 (Or.inr (slot_ne (Or.inl (own_w hw 306 rfl)) (Or.inr (own_w hw 34 rfl)) (by decide) (t := (.object own_cB)) (t' := (.object "com/example/deferline/deferline/books/Ledger$Posting")) (by decide) (by decide)))
  have f59 := fw50.other W56 (Or.inr (slot_ne (Or.inr (own_w hw 32 rfl)) (Or.inr (own_w hw 34 rfl)) (by decide) (t := (.object own_cF)) (t' := (.object "com/example/deferline/deferline/books/Ledger$Posting")) (by decide) (by decide)))
  have f60 := f53.other W56 (Or.inr (slot_ne (Or.inl (own_w hw 22 rfl)) (Or.inr (own_w hw 34 rfl)) (by decide) (t := .long) (t' := (.object "com/example/deferline/deferline/books/Ledger$Posting")) (by decide) (by decide)))
  have f61 := f54.wr W56 g_a1
  have N56 := Fr.snoc X56 N50 g_a1
  have Z56 := Nat.le_trans Z50 (Keep.of_wr W56).1
  have K56 := K50.wr W56 (Or.inl (List.mem_of_getElem? (i := 0) rfl))
  refine own_st st56 ?_
  try clear fo55 X50 e50 st56 f51 f52 fw50 f53 f54
  refine own_xaloadN X56 hx hby d2_61 rfl rfl ?_
  refine own_xaloadN X56 hx hby d2_62 rfl rfl ?_
  obtain ⟨w62, fo62⟩ := own_some (O := own_cL) (n := "participant") (d := "Lcom/example/deferline/deferline/books/Participant;") (own_w hw 3 rfl) f57 f60 (Or.inr (own_w hw 36 rfl))
  obtain ⟨T63, h63, X63, e63, W63, st63⟩ := putF X56 hx hZ hown (host := "") (Or.inl (own_w hw 35 rfl)) Via.refl e56 fo62 f57 (Or.inr ⟨(own_w hw 36 rfl), rfl, hnm⟩) (own_w hw 3 rfl) (ty := (.object "com/example/deferline/deferline/books/Participant")) (by decide) rfl rfl (g := (mkF m 63 #[own_R a1, own_R a2, own_N, own_N, own_N] [.null, (.ref a1)])) rfl rfl (hb hby d2_63)
  have f64 := f57.wr W63
  have f65 := f58.other W63 (Or.inr (slot_ne (Or.inl (own_w hw 306 rfl)) (Or.inr (own_w hw 36 rfl)) (by decide) (t := (.object own_cB)) (t' := (.object "com/example/deferline/deferline/books/Participant")) (by decide) (by decide)))
  have f66 := f59.other W63 (Or.inr (slot_ne (Or.inr (own_w hw 32 rfl)) (Or.inr (own_w hw 36 rfl)) (by decide) (t := (.object own_cF)) (t' := (.object "com/example/deferline/deferline/books/Participant")) (by decide) (by decide)))
  have f67 := f60.other W63 (Or.inr (slot_ne (Or.inl (own_w hw 22 rfl)) (Or.inr (own_w hw 36 rfl)) (by decide) (t := .long) (t' := (.object "com/example/deferline/deferline/books/Participant")) (by decide) (by decide)))
  have f68 := f61.wr W63 g_a1
  have N63 := Fr.snoc X63 N56 g_a1
  have Z63 := Nat.le_trans Z56 (Keep.of_wr W63).1
  have K63 := K56.wr W63 (Or.inl (List.mem_of_getElem? (i := 0) rfl))
  refine own_st st63 ?_
  show own_Go p e below K (T63.setTop (mkF m 66 #[own_R a1, own_R a2, own_N, own_N, own_N] []))
  try clear fo62 X56 e56 st63 f57 f58 f59 f60 f61
  refine own_xaloadN X63 hx hby d2_66 rfl rfl ?_
  refine own_xaload X63 hx hby d2_67 rfl rfl ?_
  obtain ⟨w69, fo69⟩ := own_some (O := own_cL) (n := "account") (d := "Ljava/lang/String;") (own_w hw 3 rfl) f64 f67 (Or.inr (own_w hw 38 rfl))
  obtain ⟨T70, h70, X70, e70, W70, st70⟩ := putF X63 hx hZ hown (host := "") (Or.inl (own_w hw 37 rfl)) Via.refl e63 fo69 f64 (Or.inr ⟨(own_w hw 38 rfl), rfl, hnm⟩) (own_w hw 3 rfl) (ty := (.object "java/lang/String")) (by decide) rfl rfl (g := (mkF m 69 #[own_R a1, own_R a2, own_N, own_N, own_N] [.null, (.ref a1)])) rfl rfl (hb hby d2_69)
  have f71 := f64.wr W70
  have f72 := f65.other W70 (Or.inr (slot_ne (Or.inl (own_w hw 306 rfl)) (Or.inr (own_w hw 38 rfl)) (by decide) (t := (.object own_cB)) (t' := (.object "java/lang/String")) (by decide) (by decide)))
  have f73 := f66.other W70 (Or.inr (slot_ne (Or.inr (own_w hw 32 rfl)) (Or.inr (own_w hw 38 rfl)) (by decide) (t := (.object own_cF)) (t' := (.object "java/lang/String")) (by decide) (by decide)))
  have f74 := f67.other W70 (Or.inr (slot_ne (Or.inl (own_w hw 22 rfl)) (Or.inr (own_w hw 38 rfl)) (by decide) (t := .long) (t' := (.object "java/lang/String")) (by decide) (by decide)))
  have f75 := f68.wr W70 g_a1
  have N70 := Fr.snoc X70 N63 g_a1
  have Z70 := Nat.le_trans Z63 (Keep.of_wr W70).1
  have K70 := K63.wr W70 (Or.inl (List.mem_of_getElem? (i := 0) rfl))
  refine own_st st70 ?_
  try clear fo69 X63 e63 st70 f64 f65 f66 f67 f68
  obtain ⟨fs, hr, hrun, hended, hW, hsame⟩ := X70.leave (v := none) (fun _ => rfl)
  refine ⟨_, X70.returnOut hx Bd.returns (hb hby d2_72) hr, fin _ _ _ hrun hended ?_ ⟨⟨_, rfl⟩, hW, hsame.mono (by decide) (by decide)⟩⟩
  show Q2f Z a1 a2 xx h0 n0 _ T70.heap _
  rw [e70]
  exact ⟨rfl, N70, K70, f71, f72, f73, f74⟩
theorem d1_0 : decode oB1 0 = .ok (.aload_n 0, 1) := by decide +kernel
theorem d1_1 : decode oB1 1 = .ok (.aconst_null, 1) := by decide +kernel
theorem d1_2 : decode oB1 2 = .ok (.aconst_null, 1) := by decide +kernel
theorem d1_3 : decode oB1 3 = .ok (.aconst_null, 1) := by decide +kernel
theorem d1_4 : decode oB1 4 = .ok (.aconst_null, 1) := by decide +kernel
theorem d1_5 : decode oB1 5 = .ok (.invokespecial 3, 3) := by decide +kernel
theorem d1_8 : decode oB1 8 = .ok (.return_, 1) := by decide +kernel
theorem pn_1 : plainName own_cL = true := by first | (simp [plainName, overriddenIn]; done) | decide +kernel
theorem pd_1_1 : parseMethodDescriptor "(Lcom/example/deferline/deferline/books/Folding;Lcom/example/deferline/deferline/books/Ledger$Posting;Lcom/example/deferline/deferline/books/Participant;Ljava/lang/String;)V" = some ⟨[(.object own_cF), (.object "com/example/deferline/deferline/books/Ledger$Posting"), (.object "com/example/deferline/deferline/books/Participant"), (.object "java/lang/String")], none⟩ := by decide +kernel
theorem ef_1 (m : MethodId) (x0 : Addr) : entryFrame m #[(.ref x0)] 1 = mkF m 0 #[own_R x0] [] := by first | (simp [entryFrame, mkF, argsToLocals, Value.category]; done) | rfl
def Q1 (Z : State) (a1 : Addr) (xx : Nat → Nat) (h0 : Heap) (n0 : Nat) (v : Option Value) (h : Heap) (L : List Loc) : Prop := v = none ∧ Fr n0 L ∧ Keep h0 h [a1] ∧ (Exa Z h a1 own_cL) ∧ (Fld Z h a1 own_cL "carried" own_dB .null) ∧ (Fld Z h a1 own_cL "folding" own_dF .null) ∧ (Fld Z h a1 own_cL "lastFoldedDay" "J" (.long (-9223372036854775808)))
theorem rm1 (l : Launch) (Z : State) (a0 : Array Value) (hw : ∀ d ∈ tables_1, d.before a0 Z = true) (ws_ : List Jvm.Cond) (a1 : Addr) (xx : Nat → Nat) (h0 : Heap) (n0 : Nat) (Z0 : n0 ≤ h0.size) (g_a1 : n0 ≤ a1) (P0 : Exa Z h0 a1 own_cL) (P1 : Fld Z h0 a1 own_cL "carried" own_dB .null) (P2 : Fld Z h0 a1 own_cL "folding" own_dF .null) (P3 : Fld Z h0 a1 own_cL "lastFoldedDay" "J" (.long 0)) (P4 : Old Z n0 h0) (HP : own_P Z xx) :
    own_Met l own_mt1 oB1 1 none ws_ ({ frames := 2, cells := 0, slots := 0, locals := 28 } : Room) #[(.ref a1)] Z h0 (Q1 Z a1 xx h0 n0) := by
  refine own_met n0 (plainFor_of_name pn_1) (fun m => ef_1 m a1) ?_
  intro p e s m below meth c s₁ Bd hZ hx hby hml hown' hnm X0 e0 N0 K fin
  have hown : s.vm.findClass own_cL = some m.cls := hown'
  show own_Go p e below K (s₁.setTop (mkF m 0 #[own_R a1] []))
  refine own_xaloadN X0 hx hby d1_0 rfl rfl ?_
  refine own_xaconstNull X0 hx hby d1_1 ?_
  refine own_xaconstNull X0 hx hby d1_2 ?_
  refine own_xaconstNull X0 hx hby d1_3 ?_
  refine own_xaconstNull X0 hx hby d1_4 ?_
  obtain ⟨_, T1, L1, Lc1, X1, hQ1, Nf1, st1⟩ := own_back (cells := 0) (slots := 0) (rc := 0) (rs := 0) N0 (X0.specialBack hx (y := own_mt2) rfl hown (mvT hZ (own_w hw 8 rfl)) (mvT hZ (own_w hw 9 rfl)) (mvT hZ (own_w hw 10 rfl)) (by decide) (backOf (W := 0) (rm2 l Z a0 hw [] a1 xx h0 n0 Z0 g_a1 P0 P1 P2 P3 P4 (by assumption)) hZ (own_w hw 10 rfl) (own_w hw 4 rfl) (by decide) (by decide)) (g := (mkF m 5 #[own_R a1] [.null, .null, .null, .null, (.ref a1)])) rfl (by rw [hml]; rfl) (Steps.refl _) (a := a1) (argsL := [.null, .null, .null, .null]) (rest := []) (lenOf pd_1_1 rfl) rfl (by show 2 * 0 + _ ≤ _; exact Nat.le_of_eq rfl) (hb hby d1_5) (fun _ _ => ⟨rfl, e0, (by decide : 0 + 0 ≤ _), (by decide : 0 + 0 ≤ _)⟩))
  obtain ⟨rfl, N1q, Kq1, p1_0, p1_1, p1_2, p1_3⟩ := hQ1
  have N1 := Nf1 N1q
  have f2 := P4.keep Kq1 (allS (P := fun x => n0 ≤ x) g_a1 all0)
  have Z1 := Nat.le_trans Z0 Kq1.1
  have K1 : Keep h0 T1.heap [a1] := (Keep.refl h0 [a1]).trans Kq1 (allS (P := fun x => x ∈ [a1] ∨ h0.size ≤ x) (Or.inl (List.mem_of_getElem? (i := 0) rfl)) all0)
  refine own_tr st1 ?_
  obtain ⟨fs, hr, hrun, hended, hW, hsame⟩ := X1.leave (v := none) (fun _ => rfl)
  refine ⟨_, X1.returnOut hx Bd.returns (hb hby d1_8) hr, fin _ _ _ hrun hended ?_ ⟨⟨_, rfl⟩, hW, hsame.mono (by decide) (by decide)⟩⟩
  show Q1 Z a1 xx h0 n0 _ T1.heap _
  exact ⟨rfl, N1, K1, p1_0, p1_1, p1_2, p1_3⟩
theorem d4_0 : decode oB4 0 = .ok (.aload_n 0, 1) := by decide +kernel
theorem d4_1 : decode oB4 1 = .ok (.invokespecial 3, 3) := by decide +kernel
theorem d4_4 : decode oB4 4 = .ok (.aload_n 0, 1) := by decide +kernel
theorem d4_5 : decode oB4 5 = .ok (.new 9, 3) := by decide +kernel
theorem d4_8 : decode oB4 8 = .ok (.dup, 1) := by decide +kernel
theorem d4_9 : decode oB4 9 = .ok (.invokespecial 11, 3) := by decide +kernel
theorem d4_12 : decode oB4 12 = .ok (.putfield 12, 3) := by decide +kernel
theorem d4_15 : decode oB4 15 = .ok (.aload_n 0, 1) := by decide +kernel
theorem d4_16 : decode oB4 16 = .ok (.aload_n 1, 1) := by decide +kernel
theorem d4_17 : decode oB4 17 = .ok (.putfield 18, 3) := by decide +kernel
theorem d4_20 : decode oB4 20 = .ok (.aload_n 0, 1) := by decide +kernel
theorem d4_21 : decode oB4 21 = .ok (.iload_n 2, 1) := by decide +kernel
theorem d4_22 : decode oB4 22 = .ok (.putfield 22, 3) := by decide +kernel
theorem d4_25 : decode oB4 25 = .ok (.aload_n 0, 1) := by decide +kernel
theorem d4_26 : decode oB4 26 = .ok (.iload_n 2, 1) := by decide +kernel
theorem d4_27 : decode oB4 27 = .ok (.iload_n 3, 1) := by decide +kernel
theorem d4_28 : decode oB4 28 = .ok (.iadd, 1) := by decide +kernel
theorem d4_29 : decode oB4 29 = .ok (.putfield 26, 3) := by decide +kernel
theorem d4_32 : decode oB4 32 = .ok (.return_, 1) := by decide +kernel
theorem pn_4 : plainName own_cR = true := by first | (simp [plainName, overriddenIn]; done) | decide +kernel
theorem pd_4_0 : parseMethodDescriptor "()V" = some ⟨[], none⟩ := by decide +kernel
theorem ef_4 (m : MethodId) (x0 : Addr) (x1 : Addr) (x2 : Int32) (x3 : Int32) : entryFrame m #[(.ref x0), (.ref x1), (.int x2), (.int x3)] 4 = mkF m 0 #[own_R x0, own_R x1, own_I x2, own_I x3] [] := by first | (simp [entryFrame, mkF, argsToLocals, Value.category]; done) | rfl
def Q4 (Z : State) (a1 : Addr) (a2 : Addr) (xx : Nat → Nat) (h0 : Heap) (n0 : Nat) (v : Option Value) (h : Heap) (L : List Loc) : Prop := ∃ (kp : Addr), v = none ∧ Fr n0 L ∧ Keep h0 h [a1] ∧ (Exa Z h a1 own_cR) ∧ (Fld Z h a1 own_cR "bytes" "[B" (.ref a2)) ∧ (Fld Z h a1 own_cR "position" "I" (.int 0)) ∧ (Fld Z h a1 own_cR "end" "I" (.int 24)) ∧ (Fld Z h a1 own_cR "kept" "Ljava/util/List;" (.ref kp)) ∧ (Exa Z h kp own_cA) ∧ (Fld Z h kp own_cA "elementData" "[Ljava/lang/Object;" (.ref (xx 0))) ∧ (Fld Z h kp "java/util/AbstractList" "modCount" "I" (.int 0)) ∧ (Fld Z h kp own_cA "size" "I" (.int 0)) ∧ (n0 ≤ kp)
theorem rm4 (l : Launch) (Z : State) (a0 : Array Value) (hw : ∀ d ∈ tables_1, d.before a0 Z = true) (ws_ : List Jvm.Cond) (a1 : Addr) (a2 : Addr) (xx : Nat → Nat) (h0 : Heap) (n0 : Nat) (Z0 : n0 ≤ h0.size) (g_a1 : n0 ≤ a1) (P0 : Exa Z h0 a1 own_cR) (P1 : Fld Z h0 a1 own_cR "bytes" "[B" .null) (P2 : Fld Z h0 a1 own_cR "position" "I" (.int 0)) (P3 : Fld Z h0 a1 own_cR "end" "I" (.int 0)) (P4 : Fld Z h0 a1 own_cR "kept" "Ljava/util/List;" .null) (P5 : Old Z n0 h0) (HP : own_P Z xx) :
    own_Met l own_mt4 oB4 4 none ws_ ({ frames := 4, cells := 1, slots := 3, locals := 50 } : Room) #[(.ref a1), (.ref a2), (.int 0), (.int 24)] Z h0 (Q4 Z a1 a2 xx h0 n0) := by
  refine own_met n0 (plainFor_of_name pn_4) (fun m => ef_4 m a1 a2 (0 : Int32) (24 : Int32)) ?_
  intro p e s m below meth c s₁ Bd hZ hx hby hml hown' hnm X0 e0 N0 K fin
  have hown : s.vm.findClass own_cR = some m.cls := hown'
  show own_Go p e below K (s₁.setTop (mkF m 0 #[own_R a1, own_R a2, own_I 0, own_I 24] []))
  refine own_xaloadN X0 hx hby d4_0 rfl rfl ?_
  obtain ⟨T1, X1, e1, st1⟩ := initO X0 hx hZ hown (own_w hw 45 rfl) (own_w hw 12 rfl) (own_w hw 13 rfl) e0 (g := (mkF m 1 #[own_R a1, own_R a2, own_I 0, own_I 24] [(.ref a1)])) rfl (by rw [hml]; rfl) rfl (hb hby d4_1) (by decide) (W := 0) (by show 2 * 0 + _ ≤ _; exact Nat.le_of_eq rfl) (by decide)
  refine own_st st1 ?_
  show own_Go p e below K (T1.setTop (mkF m 4 #[own_R a1, own_R a2, own_I 0, own_I 24] []))
  refine own_xaloadN X1 hx hby d4_4 rfl rfl ?_
  obtain ⟨T2, h2, X2, e2, E2, A2, D2, -, st2⟩ := newO X1 hx hZ hown (own_w hw 46 rfl) (own_w hw 47 rfl) (own_w hw 48 rfl) e1 (g := (mkF m 5 #[own_R a1, own_R a2, own_I 0, own_I 24] [(.ref a1)])) rfl (hb hby d4_5) (by decide) (by decide)
  obtain ⟨b2, g2⟩ : ∃ z, z = h0.size := ⟨_, rfl⟩
  rw [← g2] at A2 D2 st2
  have ne_a1_b2 : a1 ≠ b2 := Nat.ne_of_lt (Nat.lt_of_lt_of_le P0.lt (Nat.le_of_eq g2.symm))
  have g_b2 : n0 ≤ b2 := Nat.le_trans Z0 (Nat.le_of_eq g2.symm)
  have sz_b2 : h0.size ≤ b2 := Nat.le_trans (Keep.refl h0 [a1]).1 (Nat.le_of_eq g2.symm)
  have f3 := P0.ext E2
  have f4 := P1.ext E2
  have f5 := P2.ext E2
  have f6 := P3.ext E2
  have f7 := P4.ext E2
  have f8 := P5.ext E2
  have f9 : Fld Z h2 b2 "java/util/AbstractList" "modCount" "I" (.int 0) := D2 (Or.inl (own_w hw 66 rfl)) (ty := .int) (by decide)
  have f10 : Fld Z h2 b2 own_cA "elementData" "[Ljava/lang/Object;" .null := D2 (Or.inl (own_w hw 69 rfl)) (ty := (.array (.object "java/lang/Object"))) (by decide)
  have f11 : Fld Z h2 b2 own_cA "size" "I" (.int 0) := D2 (Or.inl (own_w hw 281 rfl)) (ty := .int) (by decide)
  have Z2 := Nat.le_trans Z0 E2.1
  have K2 : Keep h0 h2 [a1] := (Keep.refl h0 [a1]).ext E2
  refine own_st st2 ?_
  refine own_xdup X2 hx hby d4_8 rfl ?_
  obtain ⟨_, T12, L12, Lc12, X12, hQ12, Nf12, st12⟩ := own_back (cells := 1) (slots := 3) (rc := 0) (rs := 0) N0 (X2.specialBack hx (y := own_mt5) rfl hown (mvT hZ (own_w hw 49 rfl)) (mvT hZ (own_w hw 50 rfl)) (mvT hZ (own_w hw 51 rfl)) (by decide) (backOf (W := 2) (rm5 l Z a0 hw [] b2 ((xx 0)) h2 n0 Z2 g_b2 A2 f10 f9 f11 f8 HP.1) hZ (own_w hw 51 rfl) (own_w hw 48 rfl) (by decide) (by decide)) (g := (mkF m 9 #[own_R a1, own_R a2, own_I 0, own_I 24] [(.ref b2), (.ref b2), (.ref a1)])) rfl (by rw [hml]; rfl) (Steps.refl _) (a := b2) (argsL := []) (rest := [(.ref b2), (.ref a1)]) (lenOf pd_4_0 rfl) rfl (by show 2 * 0 + _ ≤ _; exact Nat.le_of_eq rfl) (hb hby d4_9) (fun _ _ => ⟨rfl, e2, (by decide : 1 + 0 ≤ _), (by decide : 3 + 0 ≤ _)⟩))
  obtain ⟨rfl, N12q, Kq12, p12_0, p12_1, p12_2, p12_3⟩ := hQ12
  have N12 := Nf12 N12q
  have f13 := f3.keep Kq12
  have f14 := f4.keep Kq12 (ninS ne_a1_b2 nin0)
  have f15 := f5.keep Kq12 (ninS ne_a1_b2 nin0)
  have f16 := f6.keep Kq12 (ninS ne_a1_b2 nin0)
  have f17 := f7.keep Kq12 (ninS ne_a1_b2 nin0)
  have f18 := f8.keep Kq12 (allS (P := fun x => n0 ≤ x) g_b2 all0)
  have Z12 := Nat.le_trans Z2 Kq12.1
  have K12 := K2.trans Kq12 (allS (P := fun x => x ∈ [a1] ∨ h0.size ≤ x) (Or.inr sz_b2) all0)
  refine own_tr st12 ?_
  obtain ⟨T19, h19, X19, e19, W19, st19⟩ := putF X12 hx hZ hown (host := "") (Or.inl (own_w hw 70 rfl)) Via.refl rfl f17 f13 (Or.inr ⟨(own_w hw 71 rfl), rfl, hnm⟩) (own_w hw 40 rfl) (ty := (.object "java/util/List")) (by decide) rfl rfl (g := (mkF m 12 #[own_R a1, own_R a2, own_I 0, own_I 24] [(.ref b2), (.ref a1)])) rfl rfl (hb hby d4_12)
  have fw19 : Fld Z h19 a1 own_cR "kept" "Ljava/util/List;" (.ref b2) := f17.same W19
  have f20 := f13.wr W19
  have f21 := f14.other W19 (Or.inr (slot_ne (Or.inr (own_w hw 73 rfl)) (Or.inr (own_w hw 71 rfl)) (by decide) (t := (.array .byte)) (t' := (.object "java/util/List")) (by decide) (by decide)))
  have f22 := f15.other W19 (Or.inr (slot_ne (Or.inl (own_w hw 75 rfl)) (Or.inr (own_w hw 71 rfl)) (by decide) (t := .int) (t' := (.object "java/util/List")) (by decide) (by decide)))
  have f23 := f16.other W19 (Or.inr (slot_ne (Or.inr (own_w hw 77 rfl)) (Or.inr (own_w hw 71 rfl)) (by decide) (t := .int) (t' := (.object "java/util/List")) (by decide) (by decide)))
  have f24 := f18.wr W19 g_a1
  have f25 := p12_0.wr W19
  have f26 := p12_1.other W19 (Or.inl (Ne.symm ne_a1_b2))
  have f27 := p12_2.other W19 (Or.inl (Ne.symm ne_a1_b2))
  have f28 := p12_3.other W19 (Or.inl (Ne.symm ne_a1_b2))
  have N19 := Fr.snoc X19 N12 g_a1
  have Z19 := Nat.le_trans Z12 (Keep.of_wr W19).1
  have K19 := K12.wr W19 (Or.inl (List.mem_of_getElem? (i := 0) rfl))
  refine own_st st19 ?_
  refine own_xaloadN X19 hx hby d4_15 rfl rfl ?_
  refine own_xaloadN X19 hx hby d4_16 rfl rfl ?_
  obtain ⟨T29, h29, X29, e29, W29, st29⟩ := putF X19 hx hZ hown (host := "") (Or.inl (own_w hw 72 rfl)) Via.refl e19 f21 f20 (Or.inr ⟨(own_w hw 73 rfl), rfl, hnm⟩) (own_w hw 40 rfl) (ty := (.array .byte)) (by decide) rfl rfl (g := (mkF m 17 #[own_R a1, own_R a2, own_I 0, own_I 24] [(.ref a2), (.ref a1)])) rfl rfl (hb hby d4_17)
  have fw29 : Fld Z h29 a1 own_cR "bytes" "[B" (.ref a2) := f21.same W29
  have f30 := f20.wr W29
  have f31 := f22.other W29 (Or.inr (slot_ne (Or.inl (own_w hw 75 rfl)) (Or.inr (own_w hw 73 rfl)) (by decide) (t := .int) (t' := (.array .byte)) (by decide) (by decide)))
  have f32 := f23.other W29 (Or.inr (slot_ne (Or.inr (own_w hw 77 rfl)) (Or.inr (own_w hw 73 rfl)) (by decide) (t := .int) (t' := (.array .byte)) (by decide) (by decide)))
  have f33 := fw19.other W29 (Or.inr (slot_ne (Or.inr (own_w hw 71 rfl)) (Or.inr (own_w hw 73 rfl)) (by decide) (t := (.object "java/util/List")) (t' := (.array .byte)) (by decide) (by decide)))
  have f34 := f24.wr W29 g_a1
  have f35 := f25.wr W29
  have f36 := f26.other W29 (Or.inl (Ne.symm ne_a1_b2))
  have f37 := f27.other W29 (Or.inl (Ne.symm ne_a1_b2))
  have f38 := f28.other W29 (Or.inl (Ne.symm ne_a1_b2))
  have N29 := Fr.snoc X29 N19 g_a1
  have Z29 := Nat.le_trans Z19 (Keep.of_wr W29).1
  have K29 := K19.wr W29 (Or.inl (List.mem_of_getElem? (i := 0) rfl))
  refine own_st st29 ?_
  refine own_xaloadN X29 hx hby d4_20 rfl rfl ?_
  refine own_xiloadN X29 hx hby d4_21 rfl ?_
  obtain ⟨T39, h39, X39, e39, W39, st39⟩ := putF X29 hx hZ hown (host := "") (Or.inl (own_w hw 74 rfl)) Via.refl e29 f31 f30 (Or.inl (own_w hw 75 rfl)) (own_w hw 40 rfl) (ty := .int) (by decide) rfl rfl (g := (mkF m 22 #[own_R a1, own_R a2, own_I 0, own_I 24] [(.int 0), (.ref a1)])) rfl rfl (hb hby d4_22)
  have fw39 : Fld Z h39 a1 own_cR "position" "I" (.int 0) := f31.same W39
  have f40 := f30.wr W39
  have f41 := fw29.other W39 (Or.inr (slot_ne (Or.inr (own_w hw 73 rfl)) (Or.inl (own_w hw 75 rfl)) (by decide) (t := (.array .byte)) (t' := .int) (by decide) (by decide)))
  have f42 := f32.other W39 (Or.inr (slot_ne (Or.inr (own_w hw 77 rfl)) (Or.inl (own_w hw 75 rfl)) (by decide) (t := .int) (t' := .int) (by decide) (by decide)))
  have f43 := f33.other W39 (Or.inr (slot_ne (Or.inr (own_w hw 71 rfl)) (Or.inl (own_w hw 75 rfl)) (by decide) (t := (.object "java/util/List")) (t' := .int) (by decide) (by decide)))
  have f44 := f34.wr W39 g_a1
  have f45 := f35.wr W39
  have f46 := f36.other W39 (Or.inl (Ne.symm ne_a1_b2))
  have f47 := f37.other W39 (Or.inl (Ne.symm ne_a1_b2))
  have f48 := f38.other W39 (Or.inl (Ne.symm ne_a1_b2))
  have N39 := Fr.snoc X39 N29 g_a1
  have Z39 := Nat.le_trans Z29 (Keep.of_wr W39).1
  have K39 := K29.wr W39 (Or.inl (List.mem_of_getElem? (i := 0) rfl))
  refine own_st st39 ?_
  refine own_xaloadN X39 hx hby d4_25 rfl rfl ?_
  refine own_xiloadN X39 hx hby d4_26 rfl ?_
  refine own_xiloadN X39 hx hby d4_27 rfl ?_
  refine own_xiadd X39 hx hby d4_28 ?_
  show own_Go p e below K (T39.setTop (mkF m 29 #[own_R a1, own_R a2, own_I 0, own_I 24] [(.int ((0 : Int32) + (24 : Int32))), (.ref a1)]))
  rw [show ((0 : Int32) + (24 : Int32)) = (24 : Int32) from by decide]
  show own_Go p e below K (T39.setTop (mkF m 29 #[own_R a1, own_R a2, own_I 0, own_I 24] [(.int 24), (.ref a1)]))
  obtain ⟨T49, h49, X49, e49, W49, st49⟩ := putF X39 hx hZ hown (host := "") (Or.inl (own_w hw 76 rfl)) Via.refl e39 f42 f40 (Or.inr ⟨(own_w hw 77 rfl), rfl, hnm⟩) (own_w hw 40 rfl) (ty := .int) (by decide) rfl rfl (g := (mkF m 29 #[own_R a1, own_R a2, own_I 0, own_I 24] [(.int 24), (.ref a1)])) rfl rfl (hb hby d4_29)
  have fw49 : Fld Z h49 a1 own_cR "end" "I" (.int 24) := f42.same W49
  have f50 := f40.wr W49
  have f51 := f41.other W49 (Or.inr (slot_ne (Or.inr (own_w hw 73 rfl)) (Or.inr (own_w hw 77 rfl)) (by decide) (t := (.array .byte)) (t' := .int) (by decide) (by decide)))
  have f52 := fw39.other W49 (Or.inr (slot_ne (Or.inl (own_w hw 75 rfl)) (Or.inr (own_w hw 77 rfl)) (by decide) (t := .int) (t' := .int) (by decide) (by decide)))
  have f53 := f43.other W49 (Or.inr (slot_ne (Or.inr (own_w hw 71 rfl)) (Or.inr (own_w hw 77 rfl)) (by decide) (t := (.object "java/util/List")) (t' := .int) (by decide) (by decide)))
  have f54 := f44.wr W49 g_a1
  have f55 := f45.wr W49
  have f56 := f46.other W49 (Or.inl (Ne.symm ne_a1_b2))
  have f57 := f47.other W49 (Or.inl (Ne.symm ne_a1_b2))
  have f58 := f48.other W49 (Or.inl (Ne.symm ne_a1_b2))
  have N49 := Fr.snoc X49 N39 g_a1
  have Z49 := Nat.le_trans Z39 (Keep.of_wr W49).1
  have K49 := K39.wr W49 (Or.inl (List.mem_of_getElem? (i := 0) rfl))
  refine own_st st49 ?_
  obtain ⟨fs, hr, hrun, hended, hW, hsame⟩ := X49.leave (v := none) (fun _ => rfl)
  refine ⟨_, X49.returnOut hx Bd.returns (hb hby d4_32) hr, fin _ _ _ hrun hended ?_ ⟨⟨_, rfl⟩, hW, hsame.mono (by decide) (by decide)⟩⟩
  show Q4 Z a1 a2 xx h0 n0 _ T49.heap _
  rw [e49]
  exact ⟨b2, rfl, N49, K49, f50, f51, f52, fw49, f53, f55, f56, f57, f58, g_b2⟩
theorem d41_0 : decode oB41 0 = .ok (.aload_n 1, 1) := by decide +kernel
theorem d41_1 : decode oB41 1 = .ok (.invokevirtual 180, 3) := by decide +kernel
theorem d41_4 : decode oB41 4 = .ok (.istore_n 2, 1) := by decide +kernel
theorem d41_5 : decode oB41 5 = .ok (.iload_n 2, 1) := by decide +kernel
theorem d41_6 : decode oB41 6 = .ok (.ifCond .le 25, 3) := by decide +kernel
theorem d41_31 : decode oB41 31 = .ok (.return_, 1) := by decide +kernel
theorem pn_41 : plainName own_cB = true := by first | (simp [plainName, overriddenIn]; done) | decide +kernel
theorem pd_41_4 : parseMethodDescriptor "()I" = some ⟨[], some .int⟩ := by decide +kernel
theorem ef_41 (m : MethodId) (x0 : Addr) (x1 : Addr) : entryFrame m #[(.ref x0), (.ref x1)] 3 = mkF m 0 #[own_R x0, own_R x1, .unset] [] := by first | (simp [entryFrame, mkF, argsToLocals, Value.category]; done) | rfl
def Q41 (Z : State) (a1 : Addr) (a2 : Addr) (xa : Addr) (xk : ClassId) (ws : List Int32) (kp : Addr) (xp : Int32) (xj : Int32) (h0 : Heap) (n0 : Nat) (v : Option Value) (h : Heap) (L : List Loc) : Prop := v = none ∧ Fr n0 L ∧ Keep h0 h [a2] ∧ (Exa Z h a2 own_cR) ∧ (Fld Z h a2 own_cR "bytes" "[B" (.ref xa)) ∧ (Fld Z h a2 own_cR "position" "I" (.int xj)) ∧ (Fld Z h a2 own_cR "end" "I" (.int 24)) ∧ (Fld Z h a2 own_cR "kept" "Ljava/util/List;" (.ref kp))
theorem rm41 (l : Launch) (Z : State) (a0 : Array Value) (hw : ∀ d ∈ tables_1, d.before a0 Z = true) (ws_ : List Jvm.Cond) (a1 : Addr) (a2 : Addr) (xa : Addr) (xk : ClassId) (ws : List Int32) (kp : Addr) (xp : Int32) (xj : Int32) (h0 : Heap) (n0 : Nat) (Z0 : n0 ≤ h0.size) (g_a2 : n0 ≤ a2) (ne_a2_xa : a2 ≠ xa) (P0 : Exa Z h0 a2 own_cR) (P1 : Fld Z h0 a2 own_cR "bytes" "[B" (.ref xa)) (P2 : Fld Z h0 a2 own_cR "position" "I" (.int xp)) (P3 : Fld Z h0 a2 own_cR "end" "I" (.int 24)) (P4 : Fld Z h0 a2 own_cR "kept" "Ljava/util/List;" (.ref kp)) (P5 : Arv Z h0 xa xk .byte (24 : Int32) (ws.map Value.int) (.int 0)) (hne : ¬ xp = (24 : Int32)) (hin : ¬ xp < 0 ∧ xp < (24 : Int32)) (hpj : (xp + (1 : Int32)) = xj) (hv : nar .byte (ws.getD (xp).toNatClampNeg 0) = (0 : Int32)) :
    own_Met l own_mt41 oB41 3 none ws_ ({ frames := 3, cells := 0, slots := 0, locals := 42 } : Room) #[(.ref a1), (.ref a2)] Z h0 (Q41 Z a1 a2 xa xk ws kp xp xj h0 n0) := by
  refine own_met n0 (plainFor_of_name pn_41) (fun m => ef_41 m a1 a2) ?_
  intro p e s m below meth c s₁ Bd hZ hx hby hml hown' hnm X0 e0 N0 K fin
  have hown : s.vm.findClass own_cB = some m.cls := hown'
  show own_Go p e below K (s₁.setTop (mkF m 0 #[own_R a1, own_R a2, own_U] []))
  refine own_xaloadN X0 hx hby d41_0 rfl rfl ?_
  obtain ⟨cq1, kq1, qv1a, qv1b, qv1c⟩ := isOf hZ e0 P0
  obtain ⟨_, T1, L1, Lc1, X1, hQ1, Nf1, st1⟩ := own_back (cells := 0) (slots := 0) (rc := 0) (rs := 0) N0 (X0.virtualBack hx (y := own_mt9) (z := own_mt9) hown (mvT hZ (own_w hw 341 rfl)) (mvT hZ (own_w hw 84 rfl)) (notFace_of_selects (args := #[]) (mvT hZ (own_w hw 86 rfl))) (mvT hZ (own_w hw 86 rfl)) (mvT hZ (own_w hw 85 rfl)) (by decide) (backOf (W := 0) (rm9 l Z a0 hw [] a2 (xa) (xk) (ws) (kp) (xp) (xj) ((0 : Int32)) ((0 : Int64)) ((0 : Int32)) h0 n0 Z0 g_a2 ne_a2_xa P0 P1 P2 P3 P4 P5 hne hin hpj hv (by decide) (by decide) (by decide) (by decide)) hZ (own_w hw 87 rfl) (own_w hw 41 rfl) (by decide) (by decide)) qv1a qv1c (g := (mkF m 1 #[own_R a1, own_R a2, own_U] [(.ref a2)])) rfl (by rw [hml]; rfl) (Steps.refl _) (argsL := []) (rest := []) (lenOf pd_41_4 rfl) rfl (by show 2 * 0 + _ ≤ _; exact Nat.le_of_eq rfl) (hb hby d41_1) (fun _ _ => ⟨rfl, e0, (by decide : 0 + 0 ≤ _), (by decide : 0 + 0 ≤ _)⟩))
  obtain ⟨rfl, N1q, Kq1, p1_0, p1_1, p1_2, p1_3, p1_4⟩ := hQ1
  have N1 := Nf1 N1q
  have f2 := P5.keep Kq1 (ninS (Ne.symm ne_a2_xa) nin0)
  have Z1 := Nat.le_trans Z0 Kq1.1
  have K1 : Keep h0 T1.heap [a2] := (Keep.refl h0 [a2]).trans Kq1 (allS (P := fun x => x ∈ [a2] ∨ h0.size ≤ x) (Or.inl (List.mem_of_getElem? (i := 0) rfl)) all0)
  refine own_tr st1 ?_
  refine own_xistoreN X1 hx hby d41_4 (l' := #[own_R a1, own_R a2, own_I 0]) rfl ?_
  refine own_xiloadN X1 hx hby d41_5 rfl ?_
  refine own_xifYes X1 hx hby d41_6 (pc0 := 6) (pc' := 31) ((if0 _ _).trans (flt (by decide : ¬ ((0 : Int32) < (0 : Int32)))).2.2.2) rfl (by decide) (by decide) ?_
  obtain ⟨fs, hr, hrun, hended, hW, hsame⟩ := X1.leave (v := none) (fun _ => rfl)
  refine ⟨_, X1.returnOut hx Bd.returns (hb hby d41_31) hr, fin _ _ _ hrun hended ?_ ⟨⟨_, rfl⟩, hW, hsame.mono (by decide) (by decide)⟩⟩
  show Q41 Z a1 a2 xa xk ws kp xp xj h0 n0 _ T1.heap _
  exact ⟨rfl, N1, K1, p1_0, p1_1, p1_2, p1_3, p1_4⟩
theorem d16_0 : decode oB16 0 = .ok (.aload_n 0, 1) := by decide +kernel
theorem d16_1 : decode oB16 1 = .ok (.getfield 27, 3) := by decide +kernel
theorem d16_4 : decode oB16 4 = .ok (.ldc2_w 25, 3) := by decide +kernel
theorem d16_7 : decode oB16 7 = .ok (.lcmp, 1) := by decide +kernel
theorem d16_8 : decode oB16 8 = .ok (.ifCond .ne 7, 3) := by decide +kernel
theorem d16_11 : decode oB16 11 = .ok (.aconst_null, 1) := by decide +kernel
theorem d16_12 : decode oB16 12 = .ok (.goto 7, 3) := by decide +kernel
theorem d16_19 : decode oB16 19 = .ok (.areturn, 1) := by decide +kernel
theorem pn_16 : plainName own_cL = true := by first | (simp [plainName, overriddenIn]; done) | decide +kernel
theorem ef_16 (m : MethodId) (x0 : Addr) : entryFrame m #[(.ref x0)] 1 = mkF m 0 #[own_R x0] [] := by first | (simp [entryFrame, mkF, argsToLocals, Value.category]; done) | rfl
def Q16 (Z : State) (a1 : Addr) (h0 : Heap) (n0 : Nat) (v : Option Value) (h : Heap) (L : List Loc) : Prop := v = some .null ∧ Fr n0 L ∧ h = h0
theorem rm16 (l : Launch) (Z : State) (a0 : Array Value) (hw : ∀ d ∈ tables_1, d.before a0 Z = true) (ws_ : List Jvm.Cond) (a1 : Addr) (h0 : Heap) (n0 : Nat) (Z0 : n0 ≤ h0.size) (P0 : Exa Z h0 a1 own_cL) (P1 : Fld Z h0 a1 own_cL "lastFoldedDay" "J" (.long (-9223372036854775808))) :
    own_Met l own_mt16 oB16 1 (some (.object own_cB)) ws_ ({ frames := 0, cells := 0, slots := 0, locals := 0 } : Room) #[(.ref a1)] Z h0 (Q16 Z a1 h0 n0) := by
  refine own_met n0 (plainFor_of_name pn_16) (fun m => ef_16 m a1) ?_
  intro p e s m below meth c s₁ Bd hZ hx hby hml hown' hnm X0 e0 N0 K fin
  have hown : s.vm.findClass own_cL = some m.cls := hown'
  show own_Go p e below K (s₁.setTop (mkF m 0 #[own_R a1] []))
  refine own_xaloadN X0 hx hby d16_0 rfl rfl ?_
  obtain ⟨T1, X1, e1, st1⟩ := getF X0 hx hZ hown (host := "") (Or.inl (own_w hw 21 rfl)) Via.refl e0 P1 (g := (mkF m 1 #[own_R a1] [(.ref a1)])) rfl rfl (hb hby d16_1)
  refine own_st st1 ?_
  refine own_st (X1.ldc2Long hx hown (mvT hZ (own_w hw 20 rfl)) (g := (mkF m 4 #[own_R a1] [(.long (-9223372036854775808))])) rfl (hb hby d16_4)) ?_
  refine own_xlcmp X1 hx hby d16_7 ?_
  refine own_xifNo X1 hx hby d16_8 ((if0 _ _).trans (teq ((lw_eq (-9223372036854775808 : Int64) (-9223372036854775808 : Int64)).mpr (by decide : (-9223372036854775808 : Int64) = (-9223372036854775808 : Int64)))).2) ?_
  refine own_xaconstNull X1 hx hby d16_11 ?_
  refine own_xgoto X1 hx hby d16_12 (pc0 := 12) (pc' := 19) rfl (by decide) (by decide) ?_
  obtain ⟨fs, hr, hrun, hended, hW, hsame⟩ := X1.leave (v := some .null) (fun h => by rw [Bd.returns] at h; cases h)
  refine ⟨_, X1.areturnOut hx rfl Bd.returns rfl (hb hby d16_19) hr, fin _ _ _ hrun hended ?_ ⟨⟨_, rfl⟩, hW, hsame.mono (by decide) (by decide)⟩⟩
  show Q16 Z a1 h0 n0 _ T1.heap _
  rw [e1]
  exact ⟨rfl, N0, rfl⟩
theorem d16_15 : decode oB16 15 = .ok (.aload_n 0, 1) := by decide +kernel
theorem d16_16 : decode oB16 16 = .ok (.getfield 98, 3) := by decide +kernel
theorem ef_16n (m : MethodId) (x0 : Addr) : entryFrame m #[(.ref x0)] 1 = mkF m 0 #[own_R x0] [] := by first | (simp [entryFrame, mkF, argsToLocals, Value.category]; done) | rfl
def Q16n (Z : State) (a1 : Addr) (ld : Int64) (h0 : Heap) (n0 : Nat) (v : Option Value) (h : Heap) (L : List Loc) : Prop := v = some .null ∧ Fr n0 L ∧ h = h0
theorem rm16n (l : Launch) (Z : State) (a0 : Array Value) (hw : ∀ d ∈ tables_1, d.before a0 Z = true) (ws_ : List Jvm.Cond) (a1 : Addr) (ld : Int64) (h0 : Heap) (n0 : Nat) (Z0 : n0 ≤ h0.size) (P0 : Exa Z h0 a1 own_cL) (P1 : Fld Z h0 a1 own_cL "lastFoldedDay" "J" (.long ld)) (P2 : Fld Z h0 a1 own_cL "carried" own_dB .null) (hld : ¬ ld = (-9223372036854775808 : Int64)) :
    own_Met l own_mt16 oB16 1 (some (.object own_cB)) ws_ ({ frames := 0, cells := 0, slots := 0, locals := 0 } : Room) #[(.ref a1)] Z h0 (Q16n Z a1 ld h0 n0) := by
  refine own_met n0 (plainFor_of_name pn_16) (fun m => ef_16n m a1) ?_
  intro p e s m below meth c s₁ Bd hZ hx hby hml hown' hnm X0 e0 N0 K fin
  have hown : s.vm.findClass own_cL = some m.cls := hown'
  show own_Go p e below K (s₁.setTop (mkF m 0 #[own_R a1] []))
  refine own_xaloadN X0 hx hby d16_0 rfl rfl ?_
  obtain ⟨T1, X1, e1, st1⟩ := getF X0 hx hZ hown (host := "") (Or.inl (own_w hw 21 rfl)) Via.refl e0 P1 (g := (mkF m 1 #[own_R a1] [(.ref a1)])) rfl rfl (hb hby d16_1)
  refine own_st st1 ?_
  refine own_st (X1.ldc2Long hx hown (mvT hZ (own_w hw 20 rfl)) (g := (mkF m 4 #[own_R a1] [(.long ld)])) rfl (hb hby d16_4)) ?_
  refine own_xlcmp X1 hx hby d16_7 ?_
  refine own_xifYes X1 hx hby d16_8 (pc0 := 8) (pc' := 15) ((if0 _ _).trans (feq (fun q => (hld : ¬ (ld = (-9223372036854775808 : Int64))) ((lw_eq ld (-9223372036854775808 : Int64)).mp q))).2) rfl (by decide) (by decide) ?_
  refine own_xaloadN X1 hx hby d16_15 rfl rfl ?_
  obtain ⟨T2, X2, e2, st2⟩ := getF X1 hx hZ hown (host := "") (Or.inl (own_w hw 305 rfl)) Via.refl e1 P2 (g := (mkF m 16 #[own_R a1] [(.ref a1)])) rfl rfl (hb hby d16_16)
  refine own_st st2 ?_
  obtain ⟨fs, hr, hrun, hended, hW, hsame⟩ := X2.leave (v := some .null) (fun h => by rw [Bd.returns] at h; cases h)
  refine ⟨_, X2.areturnOut hx rfl Bd.returns rfl (hb hby d16_19) hr, fin _ _ _ hrun hended ?_ ⟨⟨_, rfl⟩, hW, hsame.mono (by decide) (by decide)⟩⟩
  show Q16n Z a1 ld h0 n0 _ T2.heap _
  rw [e2]
  exact ⟨rfl, N0, rfl⟩
theorem ef_16c (m : MethodId) (x0 : Addr) : entryFrame m #[(.ref x0)] 1 = mkF m 0 #[own_R x0] [] := by first | (simp [entryFrame, mkF, argsToLocals, Value.category]; done) | rfl
def Q16c (Z : State) (a1 : Addr) (ld : Int64) (cr : Addr) (h0 : Heap) (n0 : Nat) (v : Option Value) (h : Heap) (L : List Loc) : Prop := v = some (.ref cr) ∧ Fr n0 L ∧ h = h0
theorem rm16c (l : Launch) (Z : State) (a0 : Array Value) (hw : ∀ d ∈ tables_1, d.before a0 Z = true) (ws_ : List Jvm.Cond) (a1 : Addr) (ld : Int64) (cr : Addr) (h0 : Heap) (n0 : Nat) (Z0 : n0 ≤ h0.size) (P0 : Exa Z h0 a1 own_cL) (P1 : Fld Z h0 a1 own_cL "lastFoldedDay" "J" (.long ld)) (P2 : Fld Z h0 a1 own_cL "carried" own_dB (.ref cr)) (hld : ¬ ld = (-9223372036854775808 : Int64)) :
    own_Met l own_mt16 oB16 1 (some (.object own_cB)) ws_ ({ frames := 0, cells := 0, slots := 0, locals := 0 } : Room) #[(.ref a1)] Z h0 (Q16c Z a1 ld cr h0 n0) := by
  refine own_met n0 (plainFor_of_name pn_16) (fun m => ef_16c m a1) ?_
  intro p e s m below meth c s₁ Bd hZ hx hby hml hown' hnm X0 e0 N0 K fin
  have hown : s.vm.findClass own_cL = some m.cls := hown'
  show own_Go p e below K (s₁.setTop (mkF m 0 #[own_R a1] []))
  refine own_xaloadN X0 hx hby d16_0 rfl rfl ?_
  obtain ⟨T1, X1, e1, st1⟩ := getF X0 hx hZ hown (host := "") (Or.inl (own_w hw 21 rfl)) Via.refl e0 P1 (g := (mkF m 1 #[own_R a1] [(.ref a1)])) rfl rfl (hb hby d16_1)
  refine own_st st1 ?_
  refine own_st (X1.ldc2Long hx hown (mvT hZ (own_w hw 20 rfl)) (g := (mkF m 4 #[own_R a1] [(.long ld)])) rfl (hb hby d16_4)) ?_
  refine own_xlcmp X1 hx hby d16_7 ?_
  refine own_xifYes X1 hx hby d16_8 (pc0 := 8) (pc' := 15) ((if0 _ _).trans (feq (fun q => (hld : ¬ (ld = (-9223372036854775808 : Int64))) ((lw_eq ld (-9223372036854775808 : Int64)).mp q))).2) rfl (by decide) (by decide) ?_
  refine own_xaloadN X1 hx hby d16_15 rfl rfl ?_
  obtain ⟨T2, X2, e2, st2⟩ := getF X1 hx hZ hown (host := "") (Or.inl (own_w hw 305 rfl)) Via.refl e1 P2 (g := (mkF m 16 #[own_R a1] [(.ref a1)])) rfl rfl (hb hby d16_16)
  refine own_st st2 ?_
  obtain ⟨fs, hr, hrun, hended, hW, hsame⟩ := X2.leave (v := some (.ref cr)) (fun h => by rw [Bd.returns] at h; cases h)
  refine ⟨_, X2.areturnOut hx rfl Bd.returns rfl (hb hby d16_19) hr, fin _ _ _ hrun hended ?_ ⟨⟨_, rfl⟩, hW, hsame.mono (by decide) (by decide)⟩⟩
  show Q16c Z a1 ld cr h0 n0 _ T2.heap _
  rw [e2]
  exact ⟨rfl, N0, rfl⟩
theorem d8_92 : decode oB8 92 = .ok (.aload_n 0, 1) := by decide +kernel
theorem d8_93 : decode oB8 93 = .ok (.aload_n 1, 1) := by decide +kernel
theorem d8_94 : decode oB8 94 = .ok (.invokevirtual 59, 3) := by decide +kernel
theorem d8_97 : decode oB8 97 = .ok (.putfield 116, 3) := by decide +kernel
theorem d8_100 : decode oB8 100 = .ok (.aload_n 0, 1) := by decide +kernel
theorem d8_101 : decode oB8 101 = .ok (.aload_n 1, 1) := by decide +kernel
theorem d8_102 : decode oB8 102 = .ok (.invokevirtual 108, 3) := by decide +kernel
theorem d8_105 : decode oB8 105 = .ok (.invokestatic 112, 3) := by decide +kernel
theorem d8_108 : decode oB8 108 = .ok (.putfield 31, 3) := by decide +kernel
theorem d8_111 : decode oB8 111 = .ok (.aload_n 0, 1) := by decide +kernel
theorem d8_112 : decode oB8 112 = .ok (.aload_n 1, 1) := by decide +kernel
theorem d8_113 : decode oB8 113 = .ok (.invokevirtual 59, 3) := by decide +kernel
theorem d8_116 : decode oB8 116 = .ok (.putfield 120, 3) := by decide +kernel
theorem d8_119 : decode oB8 119 = .ok (.aload_n 0, 1) := by decide +kernel
theorem d8_120 : decode oB8 120 = .ok (.aload_n 1, 1) := by decide +kernel
theorem d8_121 : decode oB8 121 = .ok (.invokevirtual 59, 3) := by decide +kernel
theorem d8_124 : decode oB8 124 = .ok (.putfield 123, 3) := by decide +kernel
theorem d8_127 : decode oB8 127 = .ok (.aload_n 0, 1) := by decide +kernel
theorem d8_128 : decode oB8 128 = .ok (.getfield 123, 3) := by decide +kernel
theorem d8_131 : decode oB8 131 = .ok (.ifCond .le 41, 3) := by decide +kernel
theorem d8_172 : decode oB8 172 = .ok (.aload_n 0, 1) := by decide +kernel
theorem d8_173 : decode oB8 173 = .ok (.aload_n 1, 1) := by decide +kernel
theorem d8_174 : decode oB8 174 = .ok (.invokevirtual 108, 3) := by decide +kernel
theorem d8_177 : decode oB8 177 = .ok (.invokestatic 112, 3) := by decide +kernel
theorem d8_180 : decode oB8 180 = .ok (.putfield 34, 3) := by decide +kernel
theorem d8_183 : decode oB8 183 = .ok (.aload_n 0, 1) := by decide +kernel
theorem d8_184 : decode oB8 184 = .ok (.aload_n 1, 1) := by decide +kernel
theorem d8_185 : decode oB8 185 = .ok (.invokevirtual 59, 3) := by decide +kernel
theorem d8_188 : decode oB8 188 = .ok (.putfield 147, 3) := by decide +kernel
theorem d8_191 : decode oB8 191 = .ok (.aload_n 0, 1) := by decide +kernel
theorem d8_192 : decode oB8 192 = .ok (.aload_n 1, 1) := by decide +kernel
theorem d8_193 : decode oB8 193 = .ok (.invokevirtual 108, 3) := by decide +kernel
theorem d8_196 : decode oB8 196 = .ok (.invokestatic 112, 3) := by decide +kernel
theorem d8_199 : decode oB8 199 = .ok (.putfield 37, 3) := by decide +kernel
theorem d8_202 : decode oB8 202 = .ok (.aload_n 0, 1) := by decide +kernel
theorem d8_203 : decode oB8 203 = .ok (.aload_n 1, 1) := by decide +kernel
theorem d8_204 : decode oB8 204 = .ok (.invokevirtual 108, 3) := by decide +kernel
theorem d8_207 : decode oB8 207 = .ok (.invokestatic 112, 3) := by decide +kernel
theorem d8_210 : decode oB8 210 = .ok (.putfield 40, 3) := by decide +kernel
theorem d8_213 : decode oB8 213 = .ok (.aload_n 0, 1) := by decide +kernel
theorem d8_214 : decode oB8 214 = .ok (.aload_n 1, 1) := by decide +kernel
theorem d8_215 : decode oB8 215 = .ok (.invokevirtual 59, 3) := by decide +kernel
theorem d8_218 : decode oB8 218 = .ok (.putfield 150, 3) := by decide +kernel
theorem d8_221 : decode oB8 221 = .ok (.aload_n 0, 1) := by decide +kernel
theorem d8_222 : decode oB8 222 = .ok (.aload_n 1, 1) := by decide +kernel
theorem d8_223 : decode oB8 223 = .ok (.invokevirtual 81, 3) := by decide +kernel
theorem d8_226 : decode oB8 226 = .ok (.putfield 153, 3) := by decide +kernel
theorem d8_229 : decode oB8 229 = .ok (.aload_n 0, 1) := by decide +kernel
theorem d8_230 : decode oB8 230 = .ok (.aload_n 1, 1) := by decide +kernel
theorem d8_231 : decode oB8 231 = .ok (.invokevirtual 81, 3) := by decide +kernel
theorem d8_234 : decode oB8 234 = .ok (.putfield 156, 3) := by decide +kernel
theorem pd_8_4 : parseMethodDescriptor "()I" = some ⟨[], some .int⟩ := by decide +kernel
theorem pd_8_7 : parseMethodDescriptor "()Z" = some ⟨[], some .boolean⟩ := by decide +kernel
theorem pd_8_8 : parseMethodDescriptor "()Ljava/time/LocalDate;" = some ⟨[], some (.object own_cD)⟩ := by decide +kernel
theorem pd_8_10 : parseMethodDescriptor "(Ljava/time/LocalDate;)J" = some ⟨[(.object own_cD)], some .long⟩ := by decide +kernel
theorem pd_8_11 : parseMethodDescriptor "()Lcom/example/deferline/deferline/books/AccountBooks;" = some ⟨[], some (.object own_cB)⟩ := by decide +kernel
theorem pd_8_29 : parseMethodDescriptor "(Lcom/example/deferline/deferline/io/KeptState$Reader;)V" = some ⟨[(.object own_cR)], none⟩ := by decide +kernel
theorem pn_8 : plainName own_cL = true := by first | (simp [plainName, overriddenIn]; done) | decide +kernel
theorem own_tail8 {l : Launch} {Z : State} {a0 : Array Value} (hw : ∀ d ∈ tables_1, d.before a0 Z = true) {p : Program} {e : Env} {s : State} {m : MethodId} {below : List Frame} {meth : Method} {c : Code} {K : State → Prop} (Bd : l.admits e) (hZ : Z.Warmed39 s.vm) (hx : p.tables.exec = Jvm.exec) (hby : c.code = oB8) (hml : c.maxLocals = 4) (hown : s.vm.findClass own_cL = some m.cls) (hnm : meth.name = "restore") {a1 a2 : Addr} {h0 ha : Heap} {n0 : Nat} {xx : Nat → Nat} {xa : Addr} {xk : ClassId} {ws : List Int32} {kp : Addr} {ldv : Int64} {cv : Value} {lb fs fh : Int32} {q0 q1 q2 q3 q4 q5 q6 q7 q8 q9 q10 q11 : Int32} (HP : own_P Z xx) (g_a1 : n0 ≤ a1) (g_a2 : n0 ≤ a2) (g_kp : n0 ≤ kp) (ne_a1_a2 : a1 ≠ a2) (ne_a1_xa : a1 ≠ xa) (ne_a2_xa : a2 ≠ xa)
    {Ta : State} {La : List Loc} (Xa : Stand p l e ({ frames := 9, cells := 3, slots := 20, locals := 3087 } : Room) s m #[.ref a1, .ref a2, .null] below meth c Ta La 3 20) (ea : Ta.heap = ha) (Na : Fr n0 La) (Za : n0 ≤ ha.size) (Ka : Keep h0 ha [a1, a2, kp]) (P0 : Exa Z ha a1 own_cL) (P1 : Fld Z ha a1 own_cL "lastFoldedDay" "J" (.long ldv)) (P2 : Fld Z ha a1 own_cL "carried" own_dB cv) (P3 : Exa Z ha a2 own_cR) (P4 : Fld Z ha a2 own_cR "bytes" "[B" (.ref xa)) (P5 : Fld Z ha a2 own_cR "position" "I" (.int q0)) (P6 : Fld Z ha a2 own_cR "end" "I" (.int 24)) (P7 : Fld Z ha a2 own_cR "kept" "Ljava/util/List;" (.ref kp)) (P8 : Arv Z ha xa xk .byte (24 : Int32) (ws.map Value.int) (.int 0)) (P9 : Old Z n0 ha)
    (u0 : ¬ q0 = (24 : Int32) ∧ (¬ q0 < 0 ∧ q0 < (24 : Int32)) ∧ (q0 + (1 : Int32)) = q1) (u1 : ¬ q1 = (24 : Int32) ∧ (¬ q1 < 0 ∧ q1 < (24 : Int32)) ∧ (q1 + (1 : Int32)) = q2) (u2 : ¬ q2 = (24 : Int32) ∧ (¬ q2 < 0 ∧ q2 < (24 : Int32)) ∧ (q2 + (1 : Int32)) = q3) (u3 : ¬ q3 = (24 : Int32) ∧ (¬ q3 < 0 ∧ q3 < (24 : Int32)) ∧ (q3 + (1 : Int32)) = q4) (u4 : ¬ q4 = (24 : Int32) ∧ (¬ q4 < 0 ∧ q4 < (24 : Int32)) ∧ (q4 + (1 : Int32)) = q5) (u5 : ¬ q5 = (24 : Int32) ∧ (¬ q5 < 0 ∧ q5 < (24 : Int32)) ∧ (q5 + (1 : Int32)) = q6) (u6 : ¬ q6 = (24 : Int32) ∧ (¬ q6 < 0 ∧ q6 < (24 : Int32)) ∧ (q6 + (1 : Int32)) = q7) (u7 : ¬ q7 = (24 : Int32) ∧ (¬ q7 < 0 ∧ q7 < (24 : Int32)) ∧ (q7 + (1 : Int32)) = q8) (u8 : ¬ q8 = (24 : Int32) ∧ (¬ q8 < 0 ∧ q8 < (24 : Int32)) ∧ (q8 + (1 : Int32)) = q9) (u9 : ¬ q9 = (24 : Int32) ∧ (¬ q9 < 0 ∧ q9 < (24 : Int32)) ∧ (q9 + (1 : Int32)) = q10) (u10 : ¬ q10 = (24 : Int32) ∧ (¬ q10 < 0 ∧ q10 < (24 : Int32)) ∧ (q10 + (1 : Int32)) = q11) (t0 : nar .byte (ws.getD (q0).toNatClampNeg 0) = lb) (t1 : nar .byte (ws.getD (q1).toNatClampNeg 0) = (0 : Int32)) (t2 : nar .byte (ws.getD (q2).toNatClampNeg 0) = (0 : Int32)) (t3 : nar .byte (ws.getD (q3).toNatClampNeg 0) = (0 : Int32)) (t4 : nar .byte (ws.getD (q4).toNatClampNeg 0) = (0 : Int32)) (t5 : nar .byte (ws.getD (q5).toNatClampNeg 0) = (0 : Int32)) (t6 : nar .byte (ws.getD (q6).toNatClampNeg 0) = (0 : Int32)) (t7 : nar .byte (ws.getD (q7).toNatClampNeg 0) = (0 : Int32)) (t8 : nar .byte (ws.getD (q8).toNatClampNeg 0) = (0 : Int32)) (t9 : nar .byte (ws.getD (q9).toNatClampNeg 0) = fs) (t10 : nar .byte (ws.getD (q10).toNatClampNeg 0) = fh) (hl0 : ¬ lb < (0 : Int32)) (h1s : fs = 0 ∨ fs = 1) (h1h : fh = 0 ∨ fh = 1)
    (G : ∀ (T' : State) (L' : List Loc) (h' : Heap), Stand p l e ({ frames := 9, cells := 3, slots := 20, locals := 3087 } : Room) s m #[.ref a1, .ref a2, .null] below meth c T' L' 3 20 → T'.heap = h' → Fr n0 L' → n0 ≤ h'.size → Keep h0 h' [a1, a2, kp] → Exa Z h' a1 own_cL → Fld Z h' a1 own_cL "lastFoldedDay" "J" (.long ldv) → Fld Z h' a1 own_cL "carried" own_dB cv → own_Go p e below K (T'.setTop (mkF m 237 #[own_R a1, own_R a2, own_N, own_I 0] []))) : own_Go p e below K (Ta.setTop (mkF m 92 #[own_R a1, own_R a2, own_N, own_I 0] [])) := by
  show own_Go p e below K (Ta.setTop (mkF m 92 #[own_R a1, own_R a2, own_N, own_I 0] []))
  refine own_xaloadN Xa hx hby d8_92 rfl rfl ?_
  refine own_xaloadN Xa hx hby d8_93 rfl rfl ?_
  obtain ⟨cq1, kq1, qv1a, qv1b, qv1c⟩ := isOf hZ ea P3
  obtain ⟨_, T1, L1, Lc1, X1, hQ1, Nf1, st1⟩ := own_back (cells := 3) (slots := 20) (rc := 0) (rs := 0) Na (Xa.virtualBack hx (y := own_mt9) (z := own_mt9) hown (mvT hZ (own_w hw 83 rfl)) (mvT hZ (own_w hw 84 rfl)) (notFace_of_selects (args := #[]) (mvT hZ (own_w hw 86 rfl))) (mvT hZ (own_w hw 86 rfl)) (mvT hZ (own_w hw 85 rfl)) (by decide) (backOf (W := 1) (rm9 l Z a0 hw [] a2 (xa) (xk) (ws) (kp) (q0) (q1) (lb) (((0 : Int64) ||| (((lb &&& (127 : Int32)).toInt64) <<< ((0 : Int32) &&& 0x3f).toInt64))) ((((0 : Int64) ||| (((lb &&& (127 : Int32)).toInt64) <<< ((0 : Int32) &&& 0x3f).toInt64))).toInt32) ha n0 Za g_a2 ne_a2_xa P3 P4 P5 P6 P7 P8 u0.1 u0.2.1 u0.2.2 t0 hl0 rfl (own_num1le lb) rfl) hZ (own_w hw 87 rfl) (own_w hw 41 rfl) (by decide) (by decide)) qv1a qv1c (g := (mkF m 94 #[own_R a1, own_R a2, own_N, own_I 0] [(.ref a2), (.ref a1)])) rfl (by rw [hml]; rfl) (Steps.refl _) (argsL := []) (rest := [(.ref a1)]) (lenOf pd_8_4 rfl) rfl (by show 2 * 0 + _ ≤ _; exact Nat.le_of_eq rfl) (hb hby d8_94) (fun _ _ => ⟨rfl, ea, (by decide : 3 + 0 ≤ _), (by decide : 20 + 0 ≤ _)⟩))
  obtain ⟨rfl, N1q, Kq1, p1_0, p1_1, p1_2, p1_3, p1_4⟩ := hQ1
  have N1 := Nf1 N1q
  have f2 := P0.keep Kq1
  have f3 := P1.keep Kq1 (ninS ne_a1_a2 nin0)
  have f4 := P2.keep Kq1 (ninS ne_a1_a2 nin0)
  have f5 := P8.keep Kq1 (ninS (Ne.symm ne_a2_xa) nin0)
  have f6 := P9.keep Kq1 (allS (P := fun x => n0 ≤ x) g_a2 all0)
  have Z1 := Nat.le_trans Za Kq1.1
  have K1 := Ka.trans Kq1 (allS (P := fun x => x ∈ [a1, a2, kp] ∨ h0.size ≤ x) (Or.inl (List.mem_of_getElem? (i := 1) rfl)) all0)
  refine own_tr st1 ?_
  try clear Xa ea st1 Na N1q P0 P1 P2 P8 P9
  obtain ⟨w7, fo7⟩ := own_some (O := own_cL) (n := "lastFoldedLine") (d := "I") (own_w hw 3 rfl) f2 f3 (Or.inl (own_w hw 123 rfl))
  obtain ⟨T8, h8, X8, e8, W8, st8⟩ := putF X1 hx hZ hown (host := "") (Or.inl (own_w hw 122 rfl)) Via.refl rfl fo7 f2 (Or.inl (own_w hw 123 rfl)) (own_w hw 3 rfl) (ty := .int) (by decide) rfl rfl (g := (mkF m 97 #[own_R a1, own_R a2, own_N, own_I 0] [(.int (((0 : Int64) ||| (((lb &&& (127 : Int32)).toInt64) <<< ((0 : Int32) &&& 0x3f).toInt64))).toInt32), (.ref a1)])) rfl rfl (hb hby d8_97)
  have f9 := f2.wr W8
  have f10 := f3.other W8 (Or.inr (slot_ne (Or.inl (own_w hw 22 rfl)) (Or.inl (own_w hw 123 rfl)) (by decide) (t := .long) (t' := .int) (by decide) (by decide)))
  have f11 := f4.other W8 (Or.inr (slot_ne (Or.inl (own_w hw 306 rfl)) (Or.inl (own_w hw 123 rfl)) (by decide) (t := (.object own_cB)) (t' := .int) (by decide) (by decide)))
  have f12 := f5.other W8 (Ne.symm ne_a1_xa)
  have f13 := f6.wr W8 g_a1
  have f14 := p1_0.wr W8
  have f15 := p1_1.other W8 (Or.inl (Ne.symm ne_a1_a2))
  have f16 := p1_2.other W8 (Or.inl (Ne.symm ne_a1_a2))
  have f17 := p1_3.other W8 (Or.inl (Ne.symm ne_a1_a2))
  have f18 := p1_4.other W8 (Or.inl (Ne.symm ne_a1_a2))
  have N8 := Fr.snoc X8 N1 g_a1
  have Z8 := Nat.le_trans Z1 (Keep.of_wr W8).1
  have K8 := K1.wr W8 (Or.inl (List.mem_of_getElem? (i := 0) rfl))
  refine own_st st8 ?_
  try clear fo7 X1 st8 f2 f3 f4 f5 f6 p1_0 p1_1 p1_2 p1_3 p1_4
  refine own_xaloadN X8 hx hby d8_100 rfl rfl ?_
  refine own_xaloadN X8 hx hby d8_101 rfl rfl ?_
  obtain ⟨cq19, kq19, qv19a, qv19b, qv19c⟩ := isOf hZ e8 f14
  obtain ⟨_, T19, L19, Lc19, X19, hQ19, Nf19, st19⟩ := own_back (cells := 3) (slots := 20) (rc := 0) (rs := 0) N8 (X8.virtualBack hx (y := own_mt13) (z := own_mt13) hown (mvT hZ (own_w hw 103 rfl)) (mvT hZ (own_w hw 104 rfl)) (notFace_of_selects (args := #[]) (mvT hZ (own_w hw 106 rfl))) (mvT hZ (own_w hw 106 rfl)) (mvT hZ (own_w hw 105 rfl)) (by decide) (backOf (W := 1) (rm13 l Z a0 hw [] a2 xx (xa) (xk) (ws) (kp) (q1) (q2) h8 n0 Z8 g_a2 ne_a2_xa f14 f15 f16 f17 f18 f12 (by assumption) u1.1 u1.2.1 u1.2.2 t1) hZ (own_w hw 107 rfl) (own_w hw 41 rfl) (by decide) (by decide)) qv19a qv19c (g := (mkF m 102 #[own_R a1, own_R a2, own_N, own_I 0] [(.ref a2), (.ref a1)])) rfl (by rw [hml]; rfl) (Steps.refl _) (argsL := []) (rest := [(.ref a1)]) (lenOf pd_8_8 rfl) rfl (by show 2 * 0 + _ ≤ _; exact Nat.le_of_eq rfl) (hb hby d8_102) (fun _ _ => ⟨rfl, e8, (by decide : 3 + 0 ≤ _), (by decide : 20 + 0 ≤ _)⟩))
  obtain ⟨rfl, N19q, Kq19, p19_0, p19_1, p19_2, p19_3, p19_4⟩ := hQ19
  have N19 := Nf19 N19q
  have f20 := f9.keep Kq19
  have f21 := f10.keep Kq19 (ninS ne_a1_a2 nin0)
  have f22 := f11.keep Kq19 (ninS ne_a1_a2 nin0)
  have f23 := f12.keep Kq19 (ninS (Ne.symm ne_a2_xa) nin0)
  have f24 := f13.keep Kq19 (allS (P := fun x => n0 ≤ x) g_a2 all0)
  have Z19 := Nat.le_trans Z8 Kq19.1
  have K19 := K8.trans Kq19 (allS (P := fun x => x ∈ [a1, a2, kp] ∨ h0.size ≤ x) (Or.inl (List.mem_of_getElem? (i := 1) rfl)) all0)
  refine own_tr st19 ?_
  try clear X8 e8 st19 N8 N19q f9 f10 f11 f12 f13
  obtain ⟨_, T25, L25, Lc25, X25, hQ25, Nf25, st25⟩ := own_backS (cells := 3) (slots := 20) (rc := 0) (rs := 0) N19 (Jvm.LawKit.callS X19 hx (y := own_mt15) hown (mvT hZ (own_w hw 119 rfl)) (mvT hZ (own_w hw 120 rfl)) (mvT hZ (own_w hw 4 rfl)) (mvT hZ (own_w hw 121 rfl)) (by decide) (backOf (W := 1) (rm15 l Z a0 hw []  T19.heap n0 Z19) hZ (own_w hw 121 rfl) (own_w hw 4 rfl) (by decide) (by decide)) (g := (mkF m 105 #[own_R a1, own_R a2, own_N, own_I 0] [.null, (.ref a1)])) rfl (by rw [hml]; rfl) (argsL := [.null]) (rest := [(.ref a1)]) (lenOf pd_8_10 rfl) rfl (by show 2 * 0 + _ ≤ _; exact Nat.le_of_eq rfl) (hb hby d8_105) (fun _ _ => ⟨rfl, rfl, (by decide : 3 + 0 ≤ _), (by decide : 20 + 0 ≤ _)⟩))
  obtain ⟨rfl, N25q, e25⟩ := hQ25
  have N25 := Nf25 N25q
  refine own_tr st25 ?_
  try clear X19 st25 N19 N25q
  obtain ⟨w26, fo26⟩ := own_some (O := own_cL) (n := "lastMoveFoldedDay") (d := "J") (own_w hw 3 rfl) f20 f21 (Or.inl (own_w hw 24 rfl))
  obtain ⟨T27, h27, X27, e27, W27, st27⟩ := putF X25 hx hZ hown (host := "") (Or.inl (own_w hw 23 rfl)) Via.refl e25 fo26 f20 (Or.inl (own_w hw 24 rfl)) (own_w hw 3 rfl) (ty := .long) (by decide) rfl rfl (g := (mkF m 108 #[own_R a1, own_R a2, own_N, own_I 0] [(.long (-9223372036854775808)), (.ref a1)])) rfl rfl (hb hby d8_108)
  have f28 := f20.wr W27
  have f29 := f21.other W27 (Or.inr (slot_ne (Or.inl (own_w hw 22 rfl)) (Or.inl (own_w hw 24 rfl)) (by decide) (t := .long) (t' := .long) (by decide) (by decide)))
  have f30 := f22.other W27 (Or.inr (slot_ne (Or.inl (own_w hw 306 rfl)) (Or.inl (own_w hw 24 rfl)) (by decide) (t := (.object own_cB)) (t' := .long) (by decide) (by decide)))
  have f31 := f23.other W27 (Ne.symm ne_a1_xa)
  have f32 := f24.wr W27 g_a1
  have f33 := p19_0.wr W27
  have f34 := p19_1.other W27 (Or.inl (Ne.symm ne_a1_a2))
  have f35 := p19_2.other W27 (Or.inl (Ne.symm ne_a1_a2))
  have f36 := p19_3.other W27 (Or.inl (Ne.symm ne_a1_a2))
  have f37 := p19_4.other W27 (Or.inl (Ne.symm ne_a1_a2))
  have N27 := Fr.snoc X27 N25 g_a1
  have Z27 := Nat.le_trans Z19 (Keep.of_wr W27).1
  have K27 := K19.wr W27 (Or.inl (List.mem_of_getElem? (i := 0) rfl))
  refine own_st st27 ?_
  try clear fo26 X25 e25 st27 f20 f21 f22 f23 f24 p19_0 p19_1 p19_2 p19_3 p19_4
  refine own_xaloadN X27 hx hby d8_111 rfl rfl ?_
  refine own_xaloadN X27 hx hby d8_112 rfl rfl ?_
  obtain ⟨cq38, kq38, qv38a, qv38b, qv38c⟩ := isOf hZ e27 f33
  obtain ⟨_, T38, L38, Lc38, X38, hQ38, Nf38, st38⟩ := own_back (cells := 3) (slots := 20) (rc := 0) (rs := 0) N27 (X27.virtualBack hx (y := own_mt9) (z := own_mt9) hown (mvT hZ (own_w hw 83 rfl)) (mvT hZ (own_w hw 84 rfl)) (notFace_of_selects (args := #[]) (mvT hZ (own_w hw 86 rfl))) (mvT hZ (own_w hw 86 rfl)) (mvT hZ (own_w hw 85 rfl)) (by decide) (backOf (W := 1) (rm9 l Z a0 hw [] a2 (xa) (xk) (ws) (kp) (q2) (q3) ((0 : Int32)) ((0 : Int64)) ((0 : Int32)) h27 n0 Z27 g_a2 ne_a2_xa f33 f34 f35 f36 f37 f31 u2.1 u2.2.1 u2.2.2 t2 (by decide) (by decide) (by decide) (by decide)) hZ (own_w hw 87 rfl) (own_w hw 41 rfl) (by decide) (by decide)) qv38a qv38c (g := (mkF m 113 #[own_R a1, own_R a2, own_N, own_I 0] [(.ref a2), (.ref a1)])) rfl (by rw [hml]; rfl) (Steps.refl _) (argsL := []) (rest := [(.ref a1)]) (lenOf pd_8_4 rfl) rfl (by show 2 * 0 + _ ≤ _; exact Nat.le_of_eq rfl) (hb hby d8_113) (fun _ _ => ⟨rfl, e27, (by decide : 3 + 0 ≤ _), (by decide : 20 + 0 ≤ _)⟩))
  obtain ⟨rfl, N38q, Kq38, p38_0, p38_1, p38_2, p38_3, p38_4⟩ := hQ38
  have N38 := Nf38 N38q
  have f39 := f28.keep Kq38
  have f40 := f29.keep Kq38 (ninS ne_a1_a2 nin0)
  have f41 := f30.keep Kq38 (ninS ne_a1_a2 nin0)
  have f42 := f31.keep Kq38 (ninS (Ne.symm ne_a2_xa) nin0)
  have f43 := f32.keep Kq38 (allS (P := fun x => n0 ≤ x) g_a2 all0)
  have Z38 := Nat.le_trans Z27 Kq38.1
  have K38 := K27.trans Kq38 (allS (P := fun x => x ∈ [a1, a2, kp] ∨ h0.size ≤ x) (Or.inl (List.mem_of_getElem? (i := 1) rfl)) all0)
  refine own_tr st38 ?_
  try clear X27 e27 st38 N27 N38q f28 f29 f30 f31 f32
  obtain ⟨w44, fo44⟩ := own_some (O := own_cL) (n := "lastMoveFoldedLine") (d := "I") (own_w hw 3 rfl) f39 f40 (Or.inl (own_w hw 125 rfl))
  obtain ⟨T45, h45, X45, e45, W45, st45⟩ := putF X38 hx hZ hown (host := "") (Or.inl (own_w hw 124 rfl)) Via.refl rfl fo44 f39 (Or.inl (own_w hw 125 rfl)) (own_w hw 3 rfl) (ty := .int) (by decide) rfl rfl (g := (mkF m 116 #[own_R a1, own_R a2, own_N, own_I 0] [(.int 0), (.ref a1)])) rfl rfl (hb hby d8_116)
  have f46 := f39.wr W45
  have f47 := f40.other W45 (Or.inr (slot_ne (Or.inl (own_w hw 22 rfl)) (Or.inl (own_w hw 125 rfl)) (by decide) (t := .long) (t' := .int) (by decide) (by decide)))
  have f48 := f41.other W45 (Or.inr (slot_ne (Or.inl (own_w hw 306 rfl)) (Or.inl (own_w hw 125 rfl)) (by decide) (t := (.object own_cB)) (t' := .int) (by decide) (by decide)))
  have f49 := f42.other W45 (Ne.symm ne_a1_xa)
  have f50 := f43.wr W45 g_a1
  have f51 := p38_0.wr W45
  have f52 := p38_1.other W45 (Or.inl (Ne.symm ne_a1_a2))
  have f53 := p38_2.other W45 (Or.inl (Ne.symm ne_a1_a2))
  have f54 := p38_3.other W45 (Or.inl (Ne.symm ne_a1_a2))
  have f55 := p38_4.other W45 (Or.inl (Ne.symm ne_a1_a2))
  have N45 := Fr.snoc X45 N38 g_a1
  have Z45 := Nat.le_trans Z38 (Keep.of_wr W45).1
  have K45 := K38.wr W45 (Or.inl (List.mem_of_getElem? (i := 0) rfl))
  refine own_st st45 ?_
  try clear fo44 X38 st45 f39 f40 f41 f42 f43 p38_0 p38_1 p38_2 p38_3 p38_4
  obtain ⟨w56, fo56⟩ := own_some (O := own_cL) (n := "recentCount") (d := "I") (own_w hw 3 rfl) f46 f47 (Or.inl (own_w hw 127 rfl))
  refine own_xaloadN X45 hx hby d8_119 rfl rfl ?_
  refine own_xaloadN X45 hx hby d8_120 rfl rfl ?_
  obtain ⟨cq57, kq57, qv57a, qv57b, qv57c⟩ := isOf hZ e45 f51
  obtain ⟨_, T57, L57, Lc57, X57, hQ57, Nf57, st57⟩ := own_back (cells := 3) (slots := 20) (rc := 0) (rs := 0) N45 (X45.virtualBack hx (y := own_mt9) (z := own_mt9) hown (mvT hZ (own_w hw 83 rfl)) (mvT hZ (own_w hw 84 rfl)) (notFace_of_selects (args := #[]) (mvT hZ (own_w hw 86 rfl))) (mvT hZ (own_w hw 86 rfl)) (mvT hZ (own_w hw 85 rfl)) (by decide) (backOf (W := 1) (rm9 l Z a0 hw [] a2 (xa) (xk) (ws) (kp) (q3) (q4) ((0 : Int32)) ((0 : Int64)) ((0 : Int32)) h45 n0 Z45 g_a2 ne_a2_xa f51 f52 f53 f54 f55 f49 u3.1 u3.2.1 u3.2.2 t3 (by decide) (by decide) (by decide) (by decide)) hZ (own_w hw 87 rfl) (own_w hw 41 rfl) (by decide) (by decide)) qv57a qv57c (g := (mkF m 121 #[own_R a1, own_R a2, own_N, own_I 0] [(.ref a2), (.ref a1)])) rfl (by rw [hml]; rfl) (Steps.refl _) (argsL := []) (rest := [(.ref a1)]) (lenOf pd_8_4 rfl) rfl (by show 2 * 0 + _ ≤ _; exact Nat.le_of_eq rfl) (hb hby d8_121) (fun _ _ => ⟨rfl, e45, (by decide : 3 + 0 ≤ _), (by decide : 20 + 0 ≤ _)⟩))
  obtain ⟨rfl, N57q, Kq57, p57_0, p57_1, p57_2, p57_3, p57_4⟩ := hQ57
  have N57 := Nf57 N57q
  have f58 := f46.keep Kq57
  have f59 := f47.keep Kq57 (ninS ne_a1_a2 nin0)
  have f60 := f48.keep Kq57 (ninS ne_a1_a2 nin0)
  have f61 := f49.keep Kq57 (ninS (Ne.symm ne_a2_xa) nin0)
  have f62 := f50.keep Kq57 (allS (P := fun x => n0 ≤ x) g_a2 all0)
  have f63 := fo56.keep Kq57 (ninS ne_a1_a2 nin0)
  have Z57 := Nat.le_trans Z45 Kq57.1
  have K57 := K45.trans Kq57 (allS (P := fun x => x ∈ [a1, a2, kp] ∨ h0.size ≤ x) (Or.inl (List.mem_of_getElem? (i := 1) rfl)) all0)
  refine own_tr st57 ?_
  try clear X45 e45 st57 N45 N57q f46 f47 f48 f49 f50 fo56
  obtain ⟨T64, h64, X64, e64, W64, st64⟩ := putF X57 hx hZ hown (host := "") (Or.inl (own_w hw 126 rfl)) Via.refl rfl f63 f58 (Or.inl (own_w hw 127 rfl)) (own_w hw 3 rfl) (ty := .int) (by decide) rfl rfl (g := (mkF m 124 #[own_R a1, own_R a2, own_N, own_I 0] [(.int 0), (.ref a1)])) rfl rfl (hb hby d8_124)
  have fw64 : Fld Z h64 a1 own_cL "recentCount" "I" (.int 0) := f63.same W64
  have f65 := f58.wr W64
  have f66 := f59.other W64 (Or.inr (slot_ne (Or.inl (own_w hw 22 rfl)) (Or.inl (own_w hw 127 rfl)) (by decide) (t := .long) (t' := .int) (by decide) (by decide)))
  have f67 := f60.other W64 (Or.inr (slot_ne (Or.inl (own_w hw 306 rfl)) (Or.inl (own_w hw 127 rfl)) (by decide) (t := (.object own_cB)) (t' := .int) (by decide) (by decide)))
  have f68 := f61.other W64 (Ne.symm ne_a1_xa)
  have f69 := f62.wr W64 g_a1
  have f70 := p57_0.wr W64
  have f71 := p57_1.other W64 (Or.inl (Ne.symm ne_a1_a2))
  have f72 := p57_2.other W64 (Or.inl (Ne.symm ne_a1_a2))
  have f73 := p57_3.other W64 (Or.inl (Ne.symm ne_a1_a2))
  have f74 := p57_4.other W64 (Or.inl (Ne.symm ne_a1_a2))
  have N64 := Fr.snoc X64 N57 g_a1
  have Z64 := Nat.le_trans Z57 (Keep.of_wr W64).1
  have K64 := K57.wr W64 (Or.inl (List.mem_of_getElem? (i := 0) rfl))
  refine own_st st64 ?_
  try clear X57 st64 f58 f59 f60 f61 f62 p57_0 p57_1 p57_2 p57_3 p57_4
  refine own_xaloadN X64 hx hby d8_127 rfl rfl ?_
  obtain ⟨T75, X75, e75, st75⟩ := getF X64 hx hZ hown (host := "") (Or.inl (own_w hw 126 rfl)) Via.refl e64 fw64 (g := (mkF m 128 #[own_R a1, own_R a2, own_N, own_I 0] [(.ref a1)])) rfl rfl (hb hby d8_128)
  refine own_st st75 ?_
  try clear X64 e64 st75
  refine own_xifYes X75 hx hby d8_131 (pc0 := 131) (pc' := 172) ((if0 _ _).trans (flt (by decide : ¬ ((0 : Int32) < (0 : Int32)))).2.2.2) rfl (by decide) (by decide) ?_
  refine own_xaloadN X75 hx hby d8_172 rfl rfl ?_
  refine own_xaloadN X75 hx hby d8_173 rfl rfl ?_
  obtain ⟨cq76, kq76, qv76a, qv76b, qv76c⟩ := isOf hZ e75 f70
  obtain ⟨_, T76, L76, Lc76, X76, hQ76, Nf76, st76⟩ := own_back (cells := 3) (slots := 20) (rc := 0) (rs := 0) N64 (X75.virtualBack hx (y := own_mt13) (z := own_mt13) hown (mvT hZ (own_w hw 103 rfl)) (mvT hZ (own_w hw 104 rfl)) (notFace_of_selects (args := #[]) (mvT hZ (own_w hw 106 rfl))) (mvT hZ (own_w hw 106 rfl)) (mvT hZ (own_w hw 105 rfl)) (by decide) (backOf (W := 1) (rm13 l Z a0 hw [] a2 xx (xa) (xk) (ws) (kp) (q4) (q5) h64 n0 Z64 g_a2 ne_a2_xa f70 f71 f72 f73 f74 f68 (by assumption) u4.1 u4.2.1 u4.2.2 t4) hZ (own_w hw 107 rfl) (own_w hw 41 rfl) (by decide) (by decide)) qv76a qv76c (g := (mkF m 174 #[own_R a1, own_R a2, own_N, own_I 0] [(.ref a2), (.ref a1)])) rfl (by rw [hml]; rfl) (Steps.refl _) (argsL := []) (rest := [(.ref a1)]) (lenOf pd_8_8 rfl) rfl (by show 2 * 0 + _ ≤ _; exact Nat.le_of_eq rfl) (hb hby d8_174) (fun _ _ => ⟨rfl, e75, (by decide : 3 + 0 ≤ _), (by decide : 20 + 0 ≤ _)⟩))
  obtain ⟨rfl, N76q, Kq76, p76_0, p76_1, p76_2, p76_3, p76_4⟩ := hQ76
  have N76 := Nf76 N76q
  have f77 := f65.keep Kq76
  have f78 := f66.keep Kq76 (ninS ne_a1_a2 nin0)
  have f79 := f67.keep Kq76 (ninS ne_a1_a2 nin0)
  have f80 := f68.keep Kq76 (ninS (Ne.symm ne_a2_xa) nin0)
  have f81 := f69.keep Kq76 (allS (P := fun x => n0 ≤ x) g_a2 all0)
  have Z76 := Nat.le_trans Z64 Kq76.1
  have K76 := K64.trans Kq76 (allS (P := fun x => x ∈ [a1, a2, kp] ∨ h0.size ≤ x) (Or.inl (List.mem_of_getElem? (i := 1) rfl)) all0)
  refine own_tr st76 ?_
  try clear X75 e75 st76 N64 N76q f65 f66 f67 f68 f69
  obtain ⟨_, T82, L82, Lc82, X82, hQ82, Nf82, st82⟩ := own_backS (cells := 3) (slots := 20) (rc := 0) (rs := 0) N76 (Jvm.LawKit.callS X76 hx (y := own_mt15) hown (mvT hZ (own_w hw 119 rfl)) (mvT hZ (own_w hw 120 rfl)) (mvT hZ (own_w hw 4 rfl)) (mvT hZ (own_w hw 121 rfl)) (by decide) (backOf (W := 1) (rm15 l Z a0 hw []  T76.heap n0 Z76) hZ (own_w hw 121 rfl) (own_w hw 4 rfl) (by decide) (by decide)) (g := (mkF m 177 #[own_R a1, own_R a2, own_N, own_I 0] [.null, (.ref a1)])) rfl (by rw [hml]; rfl) (argsL := [.null]) (rest := [(.ref a1)]) (lenOf pd_8_10 rfl) rfl (by show 2 * 0 + _ ≤ _; exact Nat.le_of_eq rfl) (hb hby d8_177) (fun _ _ => ⟨rfl, rfl, (by decide : 3 + 0 ≤ _), (by decide : 20 + 0 ≤ _)⟩))
  obtain ⟨rfl, N82q, e82⟩ := hQ82
  have N82 := Nf82 N82q
  refine own_tr st82 ?_
  try clear X76 st82 N76 N82q
  obtain ⟨w83, fo83⟩ := own_some (O := own_cL) (n := "lastFixedDay") (d := "J") (own_w hw 3 rfl) f77 f78 (Or.inl (own_w hw 26 rfl))
  obtain ⟨T84, h84, X84, e84, W84, st84⟩ := putF X82 hx hZ hown (host := "") (Or.inl (own_w hw 25 rfl)) Via.refl e82 fo83 f77 (Or.inl (own_w hw 26 rfl)) (own_w hw 3 rfl) (ty := .long) (by decide) rfl rfl (g := (mkF m 180 #[own_R a1, own_R a2, own_N, own_I 0] [(.long (-9223372036854775808)), (.ref a1)])) rfl rfl (hb hby d8_180)
  have f85 := f77.wr W84
  have f86 := f78.other W84 (Or.inr (slot_ne (Or.inl (own_w hw 22 rfl)) (Or.inl (own_w hw 26 rfl)) (by decide) (t := .long) (t' := .long) (by decide) (by decide)))
  have f87 := f79.other W84 (Or.inr (slot_ne (Or.inl (own_w hw 306 rfl)) (Or.inl (own_w hw 26 rfl)) (by decide) (t := (.object own_cB)) (t' := .long) (by decide) (by decide)))
  have f88 := f80.other W84 (Ne.symm ne_a1_xa)
  have f89 := f81.wr W84 g_a1
  have f90 := p76_0.wr W84
  have f91 := p76_1.other W84 (Or.inl (Ne.symm ne_a1_a2))
  have f92 := p76_2.other W84 (Or.inl (Ne.symm ne_a1_a2))
  have f93 := p76_3.other W84 (Or.inl (Ne.symm ne_a1_a2))
  have f94 := p76_4.other W84 (Or.inl (Ne.symm ne_a1_a2))
  have N84 := Fr.snoc X84 N82 g_a1
  have Z84 := Nat.le_trans Z76 (Keep.of_wr W84).1
  have K84 := K76.wr W84 (Or.inl (List.mem_of_getElem? (i := 0) rfl))
  refine own_st st84 ?_
  try clear fo83 X82 e82 st84 f77 f78 f79 f80 f81 p76_0 p76_1 p76_2 p76_3 p76_4
  refine own_xaloadN X84 hx hby d8_183 rfl rfl ?_
  refine own_xaloadN X84 hx hby d8_184 rfl rfl ?_
  obtain ⟨cq95, kq95, qv95a, qv95b, qv95c⟩ := isOf hZ e84 f90
  obtain ⟨_, T95, L95, Lc95, X95, hQ95, Nf95, st95⟩ := own_back (cells := 3) (slots := 20) (rc := 0) (rs := 0) N84 (X84.virtualBack hx (y := own_mt9) (z := own_mt9) hown (mvT hZ (own_w hw 83 rfl)) (mvT hZ (own_w hw 84 rfl)) (notFace_of_selects (args := #[]) (mvT hZ (own_w hw 86 rfl))) (mvT hZ (own_w hw 86 rfl)) (mvT hZ (own_w hw 85 rfl)) (by decide) (backOf (W := 1) (rm9 l Z a0 hw [] a2 (xa) (xk) (ws) (kp) (q5) (q6) ((0 : Int32)) ((0 : Int64)) ((0 : Int32)) h84 n0 Z84 g_a2 ne_a2_xa f90 f91 f92 f93 f94 f88 u5.1 u5.2.1 u5.2.2 t5 (by decide) (by decide) (by decide) (by decide)) hZ (own_w hw 87 rfl) (own_w hw 41 rfl) (by decide) (by decide)) qv95a qv95c (g := (mkF m 185 #[own_R a1, own_R a2, own_N, own_I 0] [(.ref a2), (.ref a1)])) rfl (by rw [hml]; rfl) (Steps.refl _) (argsL := []) (rest := [(.ref a1)]) (lenOf pd_8_4 rfl) rfl (by show 2 * 0 + _ ≤ _; exact Nat.le_of_eq rfl) (hb hby d8_185) (fun _ _ => ⟨rfl, e84, (by decide : 3 + 0 ≤ _), (by decide : 20 + 0 ≤ _)⟩))
  obtain ⟨rfl, N95q, Kq95, p95_0, p95_1, p95_2, p95_3, p95_4⟩ := hQ95
  have N95 := Nf95 N95q
  have f96 := f85.keep Kq95
  have f97 := f86.keep Kq95 (ninS ne_a1_a2 nin0)
  have f98 := f87.keep Kq95 (ninS ne_a1_a2 nin0)
  have f99 := f88.keep Kq95 (ninS (Ne.symm ne_a2_xa) nin0)
  have f100 := f89.keep Kq95 (allS (P := fun x => n0 ≤ x) g_a2 all0)
  have Z95 := Nat.le_trans Z84 Kq95.1
  have K95 := K84.trans Kq95 (allS (P := fun x => x ∈ [a1, a2, kp] ∨ h0.size ≤ x) (Or.inl (List.mem_of_getElem? (i := 1) rfl)) all0)
  refine own_tr st95 ?_
  try clear X84 e84 st95 N84 N95q f85 f86 f87 f88 f89
  obtain ⟨w101, fo101⟩ := own_some (O := own_cL) (n := "lastFixedLine") (d := "I") (own_w hw 3 rfl) f96 f97 (Or.inl (own_w hw 129 rfl))
  obtain ⟨T102, h102, X102, e102, W102, st102⟩ := putF X95 hx hZ hown (host := "") (Or.inl (own_w hw 128 rfl)) Via.refl rfl fo101 f96 (Or.inl (own_w hw 129 rfl)) (own_w hw 3 rfl) (ty := .int) (by decide) rfl rfl (g := (mkF m 188 #[own_R a1, own_R a2, own_N, own_I 0] [(.int 0), (.ref a1)])) rfl rfl (hb hby d8_188)
  have f103 := f96.wr W102
  have f104 := f97.other W102 (Or.inr (slot_ne (Or.inl (own_w hw 22 rfl)) (Or.inl (own_w hw 129 rfl)) (by decide) (t := .long) (t' := .int) (by decide) (by decide)))
  have f105 := f98.other W102 (Or.inr (slot_ne (Or.inl (own_w hw 306 rfl)) (Or.inl (own_w hw 129 rfl)) (by decide) (t := (.object own_cB)) (t' := .int) (by decide) (by decide)))
  have f106 := f99.other W102 (Ne.symm ne_a1_xa)
  have f107 := f100.wr W102 g_a1
  have f108 := p95_0.wr W102
  have f109 := p95_1.other W102 (Or.inl (Ne.symm ne_a1_a2))
  have f110 := p95_2.other W102 (Or.inl (Ne.symm ne_a1_a2))
  have f111 := p95_3.other W102 (Or.inl (Ne.symm ne_a1_a2))
  have f112 := p95_4.other W102 (Or.inl (Ne.symm ne_a1_a2))
  have N102 := Fr.snoc X102 N95 g_a1
  have Z102 := Nat.le_trans Z95 (Keep.of_wr W102).1
  have K102 := K95.wr W102 (Or.inl (List.mem_of_getElem? (i := 0) rfl))
  refine own_st st102 ?_
  try clear fo101 X95 st102 f96 f97 f98 f99 f100 p95_0 p95_1 p95_2 p95_3 p95_4
  refine own_xaloadN X102 hx hby d8_191 rfl rfl ?_
  show own_Go p e below K (T102.setTop (mkF m 192 #[own_R a1, own_R a2, own_N, own_I 0] [(.ref a1)]))
  refine own_xaloadN X102 hx hby d8_192 rfl rfl ?_
  obtain ⟨cq113, kq113, qv113a, qv113b, qv113c⟩ := isOf hZ e102 f108
  obtain ⟨_, T113, L113, Lc113, X113, hQ113, Nf113, st113⟩ := own_back (cells := 3) (slots := 20) (rc := 0) (rs := 0) N102 (X102.virtualBack hx (y := own_mt13) (z := own_mt13) hown (mvT hZ (own_w hw 103 rfl)) (mvT hZ (own_w hw 104 rfl)) (notFace_of_selects (args := #[]) (mvT hZ (own_w hw 106 rfl))) (mvT hZ (own_w hw 106 rfl)) (mvT hZ (own_w hw 105 rfl)) (by decide) (backOf (W := 1) (rm13 l Z a0 hw [] a2 xx (xa) (xk) (ws) (kp) (q6) (q7) h102 n0 Z102 g_a2 ne_a2_xa f108 f109 f110 f111 f112 f106 (by assumption) u6.1 u6.2.1 u6.2.2 t6) hZ (own_w hw 107 rfl) (own_w hw 41 rfl) (by decide) (by decide)) qv113a qv113c (g := (mkF m 193 #[own_R a1, own_R a2, own_N, own_I 0] [(.ref a2), (.ref a1)])) rfl (by rw [hml]; rfl) (Steps.refl _) (argsL := []) (rest := [(.ref a1)]) (lenOf pd_8_8 rfl) rfl (by show 2 * 0 + _ ≤ _; exact Nat.le_of_eq rfl) (hb hby d8_193) (fun _ _ => ⟨rfl, e102, (by decide : 3 + 0 ≤ _), (by decide : 20 + 0 ≤ _)⟩))
  obtain ⟨rfl, N113q, Kq113, p113_0, p113_1, p113_2, p113_3, p113_4⟩ := hQ113
  have N113 := Nf113 N113q
  have f114 := f103.keep Kq113
  have f115 := f104.keep Kq113 (ninS ne_a1_a2 nin0)
  have f116 := f105.keep Kq113 (ninS ne_a1_a2 nin0)
  have f117 := f106.keep Kq113 (ninS (Ne.symm ne_a2_xa) nin0)
  have f118 := f107.keep Kq113 (allS (P := fun x => n0 ≤ x) g_a2 all0)
  have Z113 := Nat.le_trans Z102 Kq113.1
  have K113 := K102.trans Kq113 (allS (P := fun x => x ∈ [a1, a2, kp] ∨ h0.size ≤ x) (Or.inl (List.mem_of_getElem? (i := 1) rfl)) all0)
  refine own_tr st113 ?_
  try clear X102 e102 st113 N102 N113q f103 f104 f105 f106 f107
  obtain ⟨_, T119, L119, Lc119, X119, hQ119, Nf119, st119⟩ := own_backS (cells := 3) (slots := 20) (rc := 0) (rs := 0) N113 (Jvm.LawKit.callS X113 hx (y := own_mt15) hown (mvT hZ (own_w hw 119 rfl)) (mvT hZ (own_w hw 120 rfl)) (mvT hZ (own_w hw 4 rfl)) (mvT hZ (own_w hw 121 rfl)) (by decide) (backOf (W := 1) (rm15 l Z a0 hw []  T113.heap n0 Z113) hZ (own_w hw 121 rfl) (own_w hw 4 rfl) (by decide) (by decide)) (g := (mkF m 196 #[own_R a1, own_R a2, own_N, own_I 0] [.null, (.ref a1)])) rfl (by rw [hml]; rfl) (argsL := [.null]) (rest := [(.ref a1)]) (lenOf pd_8_10 rfl) rfl (by show 2 * 0 + _ ≤ _; exact Nat.le_of_eq rfl) (hb hby d8_196) (fun _ _ => ⟨rfl, rfl, (by decide : 3 + 0 ≤ _), (by decide : 20 + 0 ≤ _)⟩))
  obtain ⟨rfl, N119q, e119⟩ := hQ119
  have N119 := Nf119 N119q
  refine own_tr st119 ?_
  try clear X113 st119 N113 N119q
  obtain ⟨w120, fo120⟩ := own_some (O := own_cL) (n := "lastFixedCreditDay") (d := "J") (own_w hw 3 rfl) f114 f115 (Or.inl (own_w hw 28 rfl))
  obtain ⟨T121, h121, X121, e121, W121, st121⟩ := putF X119 hx hZ hown (host := "") (Or.inl (own_w hw 27 rfl)) Via.refl e119 fo120 f114 (Or.inl (own_w hw 28 rfl)) (own_w hw 3 rfl) (ty := .long) (by decide) rfl rfl (g := (mkF m 199 #[own_R a1, own_R a2, own_N, own_I 0] [(.long (-9223372036854775808)), (.ref a1)])) rfl rfl (hb hby d8_199)
  have f122 := f114.wr W121
  have f123 := f115.other W121 (Or.inr (slot_ne (Or.inl (own_w hw 22 rfl)) (Or.inl (own_w hw 28 rfl)) (by decide) (t := .long) (t' := .long) (by decide) (by decide)))
  have f124 := f116.other W121 (Or.inr (slot_ne (Or.inl (own_w hw 306 rfl)) (Or.inl (own_w hw 28 rfl)) (by decide) (t := (.object own_cB)) (t' := .long) (by decide) (by decide)))
  have f125 := f117.other W121 (Ne.symm ne_a1_xa)
  have f126 := f118.wr W121 g_a1
  have f127 := p113_0.wr W121
  have f128 := p113_1.other W121 (Or.inl (Ne.symm ne_a1_a2))
  have f129 := p113_2.other W121 (Or.inl (Ne.symm ne_a1_a2))
  have f130 := p113_3.other W121 (Or.inl (Ne.symm ne_a1_a2))
  have f131 := p113_4.other W121 (Or.inl (Ne.symm ne_a1_a2))
  have N121 := Fr.snoc X121 N119 g_a1
  have Z121 := Nat.le_trans Z113 (Keep.of_wr W121).1
  have K121 := K113.wr W121 (Or.inl (List.mem_of_getElem? (i := 0) rfl))
  refine own_st st121 ?_
  try clear fo120 X119 e119 st121 f114 f115 f116 f117 f118 p113_0 p113_1 p113_2 p113_3 p113_4
  refine own_xaloadN X121 hx hby d8_202 rfl rfl ?_
  refine own_xaloadN X121 hx hby d8_203 rfl rfl ?_
  obtain ⟨cq132, kq132, qv132a, qv132b, qv132c⟩ := isOf hZ e121 f127
  obtain ⟨_, T132, L132, Lc132, X132, hQ132, Nf132, st132⟩ := own_back (cells := 3) (slots := 20) (rc := 0) (rs := 0) N121 (X121.virtualBack hx (y := own_mt13) (z := own_mt13) hown (mvT hZ (own_w hw 103 rfl)) (mvT hZ (own_w hw 104 rfl)) (notFace_of_selects (args := #[]) (mvT hZ (own_w hw 106 rfl))) (mvT hZ (own_w hw 106 rfl)) (mvT hZ (own_w hw 105 rfl)) (by decide) (backOf (W := 1) (rm13 l Z a0 hw [] a2 xx (xa) (xk) (ws) (kp) (q7) (q8) h121 n0 Z121 g_a2 ne_a2_xa f127 f128 f129 f130 f131 f125 (by assumption) u7.1 u7.2.1 u7.2.2 t7) hZ (own_w hw 107 rfl) (own_w hw 41 rfl) (by decide) (by decide)) qv132a qv132c (g := (mkF m 204 #[own_R a1, own_R a2, own_N, own_I 0] [(.ref a2), (.ref a1)])) rfl (by rw [hml]; rfl) (Steps.refl _) (argsL := []) (rest := [(.ref a1)]) (lenOf pd_8_8 rfl) rfl (by show 2 * 0 + _ ≤ _; exact Nat.le_of_eq rfl) (hb hby d8_204) (fun _ _ => ⟨rfl, e121, (by decide : 3 + 0 ≤ _), (by decide : 20 + 0 ≤ _)⟩))
  obtain ⟨rfl, N132q, Kq132, p132_0, p132_1, p132_2, p132_3, p132_4⟩ := hQ132
  have N132 := Nf132 N132q
  have f133 := f122.keep Kq132
  have f134 := f123.keep Kq132 (ninS ne_a1_a2 nin0)
  have f135 := f124.keep Kq132 (ninS ne_a1_a2 nin0)
  have f136 := f125.keep Kq132 (ninS (Ne.symm ne_a2_xa) nin0)
  have f137 := f126.keep Kq132 (allS (P := fun x => n0 ≤ x) g_a2 all0)
  have Z132 := Nat.le_trans Z121 Kq132.1
  have K132 := K121.trans Kq132 (allS (P := fun x => x ∈ [a1, a2, kp] ∨ h0.size ≤ x) (Or.inl (List.mem_of_getElem? (i := 1) rfl)) all0)
  refine own_tr st132 ?_
  try clear X121 e121 st132 N121 N132q f122 f123 f124 f125 f126
  obtain ⟨_, T138, L138, Lc138, X138, hQ138, Nf138, st138⟩ := own_backS (cells := 3) (slots := 20) (rc := 0) (rs := 0) N132 (Jvm.LawKit.callS X132 hx (y := own_mt15) hown (mvT hZ (own_w hw 119 rfl)) (mvT hZ (own_w hw 120 rfl)) (mvT hZ (own_w hw 4 rfl)) (mvT hZ (own_w hw 121 rfl)) (by decide) (backOf (W := 1) (rm15 l Z a0 hw []  T132.heap n0 Z132) hZ (own_w hw 121 rfl) (own_w hw 4 rfl) (by decide) (by decide)) (g := (mkF m 207 #[own_R a1, own_R a2, own_N, own_I 0] [.null, (.ref a1)])) rfl (by rw [hml]; rfl) (argsL := [.null]) (rest := [(.ref a1)]) (lenOf pd_8_10 rfl) rfl (by show 2 * 0 + _ ≤ _; exact Nat.le_of_eq rfl) (hb hby d8_207) (fun _ _ => ⟨rfl, rfl, (by decide : 3 + 0 ≤ _), (by decide : 20 + 0 ≤ _)⟩))
  obtain ⟨rfl, N138q, e138⟩ := hQ138
  have N138 := Nf138 N138q
  refine own_tr st138 ?_
  try clear X132 st138 N132 N138q
  obtain ⟨w139, fo139⟩ := own_some (O := own_cL) (n := "lastFixedCompanyContributionDay") (d := "J") (own_w hw 3 rfl) f133 f134 (Or.inl (own_w hw 30 rfl))
  obtain ⟨T140, h140, X140, e140, W140, st140⟩ := putF X138 hx hZ hown (host := "") (Or.inl (own_w hw 29 rfl)) Via.refl e138 fo139 f133 (Or.inl (own_w hw 30 rfl)) (own_w hw 3 rfl) (ty := .long) (by decide) rfl rfl (g := (mkF m 210 #[own_R a1, own_R a2, own_N, own_I 0] [(.long (-9223372036854775808)), (.ref a1)])) rfl rfl (hb hby d8_210)
  have f141 := f133.wr W140
  have f142 := f134.other W140 (Or.inr (slot_ne (Or.inl (own_w hw 22 rfl)) (Or.inl (own_w hw 30 rfl)) (by decide) (t := .long) (t' := .long) (by decide) (by decide)))
  have f143 := f135.other W140 (Or.inr (slot_ne (Or.inl (own_w hw 306 rfl)) (Or.inl (own_w hw 30 rfl)) (by decide) (t := (.object own_cB)) (t' := .long) (by decide) (by decide)))
  have f144 := f136.other W140 (Ne.symm ne_a1_xa)
  have f145 := f137.wr W140 g_a1
  have f146 := p132_0.wr W140
  have f147 := p132_1.other W140 (Or.inl (Ne.symm ne_a1_a2))
  have f148 := p132_2.other W140 (Or.inl (Ne.symm ne_a1_a2))
  have f149 := p132_3.other W140 (Or.inl (Ne.symm ne_a1_a2))
  have f150 := p132_4.other W140 (Or.inl (Ne.symm ne_a1_a2))
  have N140 := Fr.snoc X140 N138 g_a1
  have Z140 := Nat.le_trans Z132 (Keep.of_wr W140).1
  have K140 := K132.wr W140 (Or.inl (List.mem_of_getElem? (i := 0) rfl))
  refine own_st st140 ?_
  try clear fo139 X138 e138 st140 f133 f134 f135 f136 f137 p132_0 p132_1 p132_2 p132_3 p132_4
  refine own_xaloadN X140 hx hby d8_213 rfl rfl ?_
  refine own_xaloadN X140 hx hby d8_214 rfl rfl ?_
  obtain ⟨cq151, kq151, qv151a, qv151b, qv151c⟩ := isOf hZ e140 f146
  obtain ⟨_, T151, L151, Lc151, X151, hQ151, Nf151, st151⟩ := own_back (cells := 3) (slots := 20) (rc := 0) (rs := 0) N140 (X140.virtualBack hx (y := own_mt9) (z := own_mt9) hown (mvT hZ (own_w hw 83 rfl)) (mvT hZ (own_w hw 84 rfl)) (notFace_of_selects (args := #[]) (mvT hZ (own_w hw 86 rfl))) (mvT hZ (own_w hw 86 rfl)) (mvT hZ (own_w hw 85 rfl)) (by decide) (backOf (W := 1) (rm9 l Z a0 hw [] a2 (xa) (xk) (ws) (kp) (q8) (q9) ((0 : Int32)) ((0 : Int64)) ((0 : Int32)) h140 n0 Z140 g_a2 ne_a2_xa f146 f147 f148 f149 f150 f144 u8.1 u8.2.1 u8.2.2 t8 (by decide) (by decide) (by decide) (by decide)) hZ (own_w hw 87 rfl) (own_w hw 41 rfl) (by decide) (by decide)) qv151a qv151c (g := (mkF m 215 #[own_R a1, own_R a2, own_N, own_I 0] [(.ref a2), (.ref a1)])) rfl (by rw [hml]; rfl) (Steps.refl _) (argsL := []) (rest := [(.ref a1)]) (lenOf pd_8_4 rfl) rfl (by show 2 * 0 + _ ≤ _; exact Nat.le_of_eq rfl) (hb hby d8_215) (fun _ _ => ⟨rfl, e140, (by decide : 3 + 0 ≤ _), (by decide : 20 + 0 ≤ _)⟩))
  obtain ⟨rfl, N151q, Kq151, p151_0, p151_1, p151_2, p151_3, p151_4⟩ := hQ151
  have N151 := Nf151 N151q
  have f152 := f141.keep Kq151
  have f153 := f142.keep Kq151 (ninS ne_a1_a2 nin0)
  have f154 := f143.keep Kq151 (ninS ne_a1_a2 nin0)
  have f155 := f144.keep Kq151 (ninS (Ne.symm ne_a2_xa) nin0)
  have f156 := f145.keep Kq151 (allS (P := fun x => n0 ≤ x) g_a2 all0)
  have Z151 := Nat.le_trans Z140 Kq151.1
  have K151 := K140.trans Kq151 (allS (P := fun x => x ∈ [a1, a2, kp] ∨ h0.size ≤ x) (Or.inl (List.mem_of_getElem? (i := 1) rfl)) all0)
  refine own_tr st151 ?_
  try clear X140 e140 st151 N140 N151q f141 f142 f143 f144 f145
  obtain ⟨w157, fo157⟩ := own_some (O := own_cL) (n := "lastFixedPlanYear") (d := "I") (own_w hw 3 rfl) f152 f153 (Or.inl (own_w hw 131 rfl))
  obtain ⟨T158, h158, X158, e158, W158, st158⟩ := putF X151 hx hZ hown (host := "") (Or.inl (own_w hw 130 rfl)) Via.refl rfl fo157 f152 (Or.inl (own_w hw 131 rfl)) (own_w hw 3 rfl) (ty := .int) (by decide) rfl rfl (g := (mkF m 218 #[own_R a1, own_R a2, own_N, own_I 0] [(.int 0), (.ref a1)])) rfl rfl (hb hby d8_218)
  have f159 := f152.wr W158
  have f160 := f153.other W158 (Or.inr (slot_ne (Or.inl (own_w hw 22 rfl)) (Or.inl (own_w hw 131 rfl)) (by decide) (t := .long) (t' := .int) (by decide) (by decide)))
  have f161 := f154.other W158 (Or.inr (slot_ne (Or.inl (own_w hw 306 rfl)) (Or.inl (own_w hw 131 rfl)) (by decide) (t := (.object own_cB)) (t' := .int) (by decide) (by decide)))
  have f162 := f155.other W158 (Ne.symm ne_a1_xa)
  have f163 := f156.wr W158 g_a1
  have f164 := p151_0.wr W158
  have f165 := p151_1.other W158 (Or.inl (Ne.symm ne_a1_a2))
  have f166 := p151_2.other W158 (Or.inl (Ne.symm ne_a1_a2))
  have f167 := p151_3.other W158 (Or.inl (Ne.symm ne_a1_a2))
  have f168 := p151_4.other W158 (Or.inl (Ne.symm ne_a1_a2))
  have N158 := Fr.snoc X158 N151 g_a1
  have Z158 := Nat.le_trans Z151 (Keep.of_wr W158).1
  have K158 := K151.wr W158 (Or.inl (List.mem_of_getElem? (i := 0) rfl))
  refine own_st st158 ?_
  try clear fo157 X151 st158 f152 f153 f154 f155 f156 p151_0 p151_1 p151_2 p151_3 p151_4
  refine own_xaloadN X158 hx hby d8_221 rfl rfl ?_
  refine own_xaloadN X158 hx hby d8_222 rfl rfl ?_
  obtain ⟨cq169, kq169, qv169a, qv169b, qv169c⟩ := isOf hZ e158 f164
  obtain ⟨_, T169, L169, Lc169, X169, hQ169, Nf169, st169⟩ := own_back (cells := 3) (slots := 20) (rc := 0) (rs := 0) N158 (X158.virtualBack hx (y := own_mt12) (z := own_mt12) hown (mvT hZ (own_w hw 98 rfl)) (mvT hZ (own_w hw 99 rfl)) (notFace_of_selects (args := #[]) (mvT hZ (own_w hw 101 rfl))) (mvT hZ (own_w hw 101 rfl)) (mvT hZ (own_w hw 100 rfl)) (by decide) (backOf (W := 1) (rm12 l Z a0 hw [] a2 (xa) (xk) (ws) (kp) (q9) (q10) (fs) h158 n0 Z158 g_a2 ne_a2_xa f164 f165 f166 f167 f168 f162 u9.1 u9.2.1 u9.2.2 t9 h1s) hZ (own_w hw 102 rfl) (own_w hw 41 rfl) (by decide) (by decide)) qv169a qv169c (g := (mkF m 223 #[own_R a1, own_R a2, own_N, own_I 0] [(.ref a2), (.ref a1)])) rfl (by rw [hml]; rfl) (Steps.refl _) (argsL := []) (rest := [(.ref a1)]) (lenOf pd_8_7 rfl) rfl (by show 2 * 0 + _ ≤ _; exact Nat.le_of_eq rfl) (hb hby d8_223) (fun _ _ => ⟨rfl, e158, (by decide : 3 + 0 ≤ _), (by decide : 20 + 0 ≤ _)⟩))
  obtain ⟨rfl, N169q, Kq169, p169_0, p169_1, p169_2, p169_3, p169_4⟩ := hQ169
  have N169 := Nf169 N169q
  have f170 := f159.keep Kq169
  have f171 := f160.keep Kq169 (ninS ne_a1_a2 nin0)
  have f172 := f161.keep Kq169 (ninS ne_a1_a2 nin0)
  have f173 := f162.keep Kq169 (ninS (Ne.symm ne_a2_xa) nin0)
  have f174 := f163.keep Kq169 (allS (P := fun x => n0 ≤ x) g_a2 all0)
  have Z169 := Nat.le_trans Z158 Kq169.1
  have K169 := K158.trans Kq169 (allS (P := fun x => x ∈ [a1, a2, kp] ∨ h0.size ≤ x) (Or.inl (List.mem_of_getElem? (i := 1) rfl)) all0)
  refine own_tr st169 ?_
  try clear X158 e158 st169 N158 N169q f159 f160 f161 f162 f163
  obtain ⟨w175, fo175⟩ := own_some (O := own_cL) (n := "foldingStopped") (d := "Z") (own_w hw 3 rfl) f170 f171 (Or.inl (own_w hw 133 rfl))
  obtain ⟨T176, h176, X176, e176, W176, st176⟩ := putFN X169 hx hZ hown (own_w hw 132 rfl) Via.refl rfl fo175 f170 (Or.inl (own_w hw 133 rfl)) (own_w hw 3 rfl) (ty := .boolean) (v' := .int (fs &&& 1)) (by decide) rfl (fits_nar_bool _) (g := (mkF m 226 #[own_R a1, own_R a2, own_N, own_I 0] [(.int fs), (.ref a1)])) rfl rfl (hb hby d8_226)
  have f177 := f170.wr W176
  have f178 := f171.other W176 (Or.inr (slot_ne (Or.inl (own_w hw 22 rfl)) (Or.inl (own_w hw 133 rfl)) (by decide) (t := .long) (t' := .boolean) (by decide) (by decide)))
  have f179 := f172.other W176 (Or.inr (slot_ne (Or.inl (own_w hw 306 rfl)) (Or.inl (own_w hw 133 rfl)) (by decide) (t := (.object own_cB)) (t' := .boolean) (by decide) (by decide)))
  have f180 := f173.other W176 (Ne.symm ne_a1_xa)
  have f181 := f174.wr W176 g_a1
  have f182 := p169_0.wr W176
  have f183 := p169_1.other W176 (Or.inl (Ne.symm ne_a1_a2))
  have f184 := p169_2.other W176 (Or.inl (Ne.symm ne_a1_a2))
  have f185 := p169_3.other W176 (Or.inl (Ne.symm ne_a1_a2))
  have f186 := p169_4.other W176 (Or.inl (Ne.symm ne_a1_a2))
  have N176 := Fr.snoc X176 N169 g_a1
  have Z176 := Nat.le_trans Z169 (Keep.of_wr W176).1
  have K176 := K169.wr W176 (Or.inl (List.mem_of_getElem? (i := 0) rfl))
  refine own_st st176 ?_
  try clear fo175 X169 st176 f170 f171 f172 f173 f174 p169_0 p169_1 p169_2 p169_3 p169_4
  refine own_xaloadN X176 hx hby d8_229 rfl rfl ?_
  refine own_xaloadN X176 hx hby d8_230 rfl rfl ?_
  obtain ⟨cq187, kq187, qv187a, qv187b, qv187c⟩ := isOf hZ e176 f182
  obtain ⟨_, T187, L187, Lc187, X187, hQ187, Nf187, st187⟩ := own_back (cells := 3) (slots := 20) (rc := 0) (rs := 0) N176 (X176.virtualBack hx (y := own_mt12) (z := own_mt12) hown (mvT hZ (own_w hw 98 rfl)) (mvT hZ (own_w hw 99 rfl)) (notFace_of_selects (args := #[]) (mvT hZ (own_w hw 101 rfl))) (mvT hZ (own_w hw 101 rfl)) (mvT hZ (own_w hw 100 rfl)) (by decide) (backOf (W := 1) (rm12 l Z a0 hw [] a2 (xa) (xk) (ws) (kp) (q10) (q11) (fh) h176 n0 Z176 g_a2 ne_a2_xa f182 f183 f184 f185 f186 f180 u10.1 u10.2.1 u10.2.2 t10 h1h) hZ (own_w hw 102 rfl) (own_w hw 41 rfl) (by decide) (by decide)) qv187a qv187c (g := (mkF m 231 #[own_R a1, own_R a2, own_N, own_I 0] [(.ref a2), (.ref a1)])) rfl (by rw [hml]; rfl) (Steps.refl _) (argsL := []) (rest := [(.ref a1)]) (lenOf pd_8_7 rfl) rfl (by show 2 * 0 + _ ≤ _; exact Nat.le_of_eq rfl) (hb hby d8_231) (fun _ _ => ⟨rfl, e176, (by decide : 3 + 0 ≤ _), (by decide : 20 + 0 ≤ _)⟩))
  obtain ⟨rfl, N187q, Kq187, p187_0, p187_1, p187_2, p187_3, p187_4⟩ := hQ187
  have N187 := Nf187 N187q
  have f188 := f177.keep Kq187
  have f189 := f178.keep Kq187 (ninS ne_a1_a2 nin0)
  have f190 := f179.keep Kq187 (ninS ne_a1_a2 nin0)
  have f191 := f180.keep Kq187 (ninS (Ne.symm ne_a2_xa) nin0)
  have f192 := f181.keep Kq187 (allS (P := fun x => n0 ≤ x) g_a2 all0)
  have Z187 := Nat.le_trans Z176 Kq187.1
  have K187 := K176.trans Kq187 (allS (P := fun x => x ∈ [a1, a2, kp] ∨ h0.size ≤ x) (Or.inl (List.mem_of_getElem? (i := 1) rfl)) all0)
  refine own_tr st187 ?_
  try clear X176 e176 st187 N176 N187q f177 f178 f179 f180 f181
  obtain ⟨w193, fo193⟩ := own_some (O := own_cL) (n := "historyChanged") (d := "Z") (own_w hw 3 rfl) f188 f189 (Or.inl (own_w hw 135 rfl))
  obtain ⟨T194, h194, X194, e194, W194, st194⟩ := putFN X187 hx hZ hown (own_w hw 134 rfl) Via.refl rfl fo193 f188 (Or.inl (own_w hw 135 rfl)) (own_w hw 3 rfl) (ty := .boolean) (v' := .int (fh &&& 1)) (by decide) rfl (fits_nar_bool _) (g := (mkF m 234 #[own_R a1, own_R a2, own_N, own_I 0] [(.int fh), (.ref a1)])) rfl rfl (hb hby d8_234)
  have f195 := f188.wr W194
  have f196 := f189.other W194 (Or.inr (slot_ne (Or.inl (own_w hw 22 rfl)) (Or.inl (own_w hw 135 rfl)) (by decide) (t := .long) (t' := .boolean) (by decide) (by decide)))
  have f197 := f190.other W194 (Or.inr (slot_ne (Or.inl (own_w hw 306 rfl)) (Or.inl (own_w hw 135 rfl)) (by decide) (t := (.object own_cB)) (t' := .boolean) (by decide) (by decide)))
  have f198 := f191.other W194 (Ne.symm ne_a1_xa)
  have f199 := f192.wr W194 g_a1
  have f200 := p187_0.wr W194
  have f201 := p187_1.other W194 (Or.inl (Ne.symm ne_a1_a2))
  have f202 := p187_2.other W194 (Or.inl (Ne.symm ne_a1_a2))
  have f203 := p187_3.other W194 (Or.inl (Ne.symm ne_a1_a2))
  have f204 := p187_4.other W194 (Or.inl (Ne.symm ne_a1_a2))
  have N194 := Fr.snoc X194 N187 g_a1
  have Z194 := Nat.le_trans Z187 (Keep.of_wr W194).1
  have K194 := K187.wr W194 (Or.inl (List.mem_of_getElem? (i := 0) rfl))
  refine own_st st194 ?_
  try clear fo193 X187 st194 f188 f189 f190 f191 f192 p187_0 p187_1 p187_2 p187_3 p187_4
  exact G T194 _ _ X194 e194 N194 Z194 K194 f195 f196 f197
theorem d8_0 : decode oB8 0 = .ok (.aload_n 1, 1) := by decide +kernel
theorem d8_1 : decode oB8 1 = .ok (.invokevirtual 59, 3) := by decide +kernel
theorem d8_4 : decode oB8 4 = .ok (.istore_n 3, 1) := by decide +kernel
theorem d8_5 : decode oB8 5 = .ok (.iload_n 3, 1) := by decide +kernel
theorem d8_6 : decode oB8 6 = .ok (.ifCond .le 24, 3) := by decide +kernel
theorem d8_30 : decode oB8 30 = .ok (.aload_n 0, 1) := by decide +kernel
theorem d8_31 : decode oB8 31 = .ok (.aload_n 1, 1) := by decide +kernel
theorem d8_32 : decode oB8 32 = .ok (.invokevirtual 81, 3) := by decide +kernel
theorem d8_35 : decode oB8 35 = .ok (.putfield 21, 3) := by decide +kernel
theorem d8_38 : decode oB8 38 = .ok (.aload_n 1, 1) := by decide +kernel
theorem d8_39 : decode oB8 39 = .ok (.invokevirtual 81, 3) := by decide +kernel
theorem d8_42 : decode oB8 42 = .ok (.ifCond .eq 39, 3) := by decide +kernel
theorem d8_81 : decode oB8 81 = .ok (.aload_n 0, 1) := by decide +kernel
theorem d8_82 : decode oB8 82 = .ok (.aload_n 1, 1) := by decide +kernel
theorem d8_83 : decode oB8 83 = .ok (.invokevirtual 108, 3) := by decide +kernel
theorem d8_86 : decode oB8 86 = .ok (.invokestatic 112, 3) := by decide +kernel
theorem d8_89 : decode oB8 89 = .ok (.putfield 27, 3) := by decide +kernel
theorem d8_237 : decode oB8 237 = .ok (.return_, 1) := by decide +kernel
theorem ef_8 (m : MethodId) (x0 : Addr) (x1 : Addr) : entryFrame m #[(.ref x0), (.ref x1), .null] 4 = mkF m 0 #[own_R x0, own_R x1, own_N, .unset] [] := by first | (simp [entryFrame, mkF, argsToLocals, Value.category]; done) | rfl
def Q8 (Z : State) (a1 : Addr) (a2 : Addr) (xx : Nat → Nat) (xa : Addr) (xk : ClassId) (ws : List Int32) (kp : Addr) (fi : Int32) (lb : Int32) (zs : Int32) (zh : Int32) (h0 : Heap) (n0 : Nat) (v : Option Value) (h : Heap) (L : List Loc) : Prop := v = none ∧ Fr n0 L ∧ Keep h0 h [a1, a2, kp] ∧ (Exa Z h a1 own_cL) ∧ (Fld Z h a1 own_cL "lastFoldedDay" "J" (.long (-9223372036854775808))) ∧ (Fld Z h a1 own_cL "carried" own_dB .null)
theorem rm8 (l : Launch) (Z : State) (a0 : Array Value) (hw : ∀ d ∈ tables_1, d.before a0 Z = true) (ws_ : List Jvm.Cond) (a1 : Addr) (a2 : Addr) (xx : Nat → Nat) (xa : Addr) (xk : ClassId) (ws : List Int32) (kp : Addr) (fi : Int32) (lb : Int32) (zs : Int32) (zh : Int32) (h0 : Heap) (n0 : Nat) (Z0 : n0 ≤ h0.size) (g_a1 : n0 ≤ a1) (g_a2 : n0 ≤ a2) (g_kp : n0 ≤ kp) (ne_a1_a2 : a1 ≠ a2) (ne_a1_xa : a1 ≠ xa) (ne_a2_xa : a2 ≠ xa) (P0 : Exa Z h0 a1 own_cL) (P1 : Fld Z h0 a1 own_cL "carried" own_dB .null) (P2 : Fld Z h0 a1 own_cL "lastFoldedDay" "J" (.long (-9223372036854775808))) (P3 : Exa Z h0 a2 own_cR) (P4 : Fld Z h0 a2 own_cR "bytes" "[B" (.ref xa)) (P5 : Fld Z h0 a2 own_cR "position" "I" (.int 0)) (P6 : Fld Z h0 a2 own_cR "end" "I" (.int 24)) (P7 : Fld Z h0 a2 own_cR "kept" "Ljava/util/List;" (.ref kp)) (P8 : Arv Z h0 xa xk .byte (24 : Int32) (ws.map Value.int) (.int 0)) (P9 : Old Z n0 h0) (HP : own_P Z xx) (y0 : ws.getD 0 0 = 0) (y1 : ws.getD 1 0 = fi) (y2 : ws.getD 2 0 = 0) (y3 : ws.getD 3 0 = 0) (y4 : ws.getD 4 0 = lb) (y5 : ws.getD 5 0 = 0) (y6 : ws.getD 6 0 = 0) (y7 : ws.getD 7 0 = 0) (y8 : ws.getD 8 0 = 0) (y9 : ws.getD 9 0 = 0) (y10 : ws.getD 10 0 = 0) (y11 : ws.getD 11 0 = 0) (y12 : ws.getD 12 0 = 0) (y13 : ws.getD 13 0 = zs) (y14 : ws.getD 14 0 = zh) (h1i : fi = 0 ∨ fi = 1) (h1s : zs = 0 ∨ zs = 1) (h1h : zh = 0 ∨ zh = 1) (hl0 : ¬ lb < (0 : Int32)) (hl1 : nar .byte lb = lb) :
    own_Met l own_mt8 oB8 4 none ws_ ({ frames := 9, cells := 3, slots := 20, locals := 3087 } : Room) #[(.ref a1), (.ref a2), .null] Z h0 (Q8 Z a1 a2 xx xa xk ws kp fi lb zs zh h0 n0) := by
  refine own_met n0 (plainFor_of_name pn_8) (fun m => ef_8 m a1 a2) ?_
  intro p e s m below meth c s₁ Bd hZ hx hby hml hown' hnm X0 e0 N0 K fin
  have hown : s.vm.findClass own_cL = some m.cls := hown'
  show own_Go p e below K (s₁.setTop (mkF m 0 #[own_R a1, own_R a2, own_N, own_U] []))
  refine own_xaloadN X0 hx hby d8_0 rfl rfl ?_
  obtain ⟨cq1, kq1, qv1a, qv1b, qv1c⟩ := isOf hZ e0 P3
  obtain ⟨_, T1, L1, Lc1, X1, hQ1, Nf1, st1⟩ := own_back (cells := 0) (slots := 0) (rc := 0) (rs := 0) N0 (X0.virtualBack hx (y := own_mt9) (z := own_mt9) hown (mvT hZ (own_w hw 83 rfl)) (mvT hZ (own_w hw 84 rfl)) (notFace_of_selects (args := #[]) (mvT hZ (own_w hw 86 rfl))) (mvT hZ (own_w hw 86 rfl)) (mvT hZ (own_w hw 85 rfl)) (by decide) (backOf (W := 0) (rm9 l Z a0 hw [] a2 (xa) (xk) (ws) (kp) ((0 : Int32)) ((1 : Int32)) ((0 : Int32)) ((0 : Int64)) ((0 : Int32)) h0 n0 Z0 g_a2 ne_a2_xa P3 P4 P5 P6 P7 P8 (by decide) ⟨by decide, by decide⟩ (by decide) (own_hv (i := 0) (by decide) y0 (by decide)) (by decide) (by decide) (by decide) (by decide)) hZ (own_w hw 87 rfl) (own_w hw 41 rfl) (by decide) (by decide)) qv1a qv1c (g := (mkF m 1 #[own_R a1, own_R a2, own_N, own_U] [(.ref a2)])) rfl (by rw [hml]; rfl) (Steps.refl _) (argsL := []) (rest := []) (lenOf pd_8_4 rfl) rfl (by show 2 * 0 + _ ≤ _; exact Nat.le_of_eq rfl) (hb hby d8_1) (fun _ _ => ⟨rfl, e0, (by decide : 0 + 0 ≤ _), (by decide : 0 + 0 ≤ _)⟩))
  obtain ⟨rfl, N1q, Kq1, p1_0, p1_1, p1_2, p1_3, p1_4⟩ := hQ1
  have N1 := Nf1 N1q
  have f2 := P0.keep Kq1
  have f3 := P1.keep Kq1 (ninS ne_a1_a2 nin0)
  have f4 := P2.keep Kq1 (ninS ne_a1_a2 nin0)
  have f5 := P8.keep Kq1 (ninS (Ne.symm ne_a2_xa) nin0)
  have f6 := P9.keep Kq1 (allS (P := fun x => n0 ≤ x) g_a2 all0)
  have Z1 := Nat.le_trans Z0 Kq1.1
  have K1 : Keep h0 T1.heap [a1, a2, kp] := (Keep.refl h0 [a1, a2, kp]).trans Kq1 (allS (P := fun x => x ∈ [a1, a2, kp] ∨ h0.size ≤ x) (Or.inl (List.mem_of_getElem? (i := 1) rfl)) all0)
  refine own_tr st1 ?_
  try clear st1 N1q P0 P1 P2 P8 P9
  refine own_xistoreN X1 hx hby d8_4 (l' := #[own_R a1, own_R a2, own_N, own_I 0]) rfl ?_
  refine own_xiloadN X1 hx hby d8_5 rfl ?_
  refine own_xifYes X1 hx hby d8_6 (pc0 := 6) (pc' := 30) ((if0 _ _).trans (flt (by decide : ¬ ((0 : Int32) < (0 : Int32)))).2.2.2) rfl (by decide) (by decide) ?_
  refine own_xaloadN X1 hx hby d8_30 rfl rfl ?_
  refine own_xaloadN X1 hx hby d8_31 rfl rfl ?_
  obtain ⟨cq7, kq7, qv7a, qv7b, qv7c⟩ := isOf hZ rfl p1_0
  obtain ⟨_, T7, L7, Lc7, X7, hQ7, Nf7, st7⟩ := own_back (cells := 0) (slots := 0) (rc := 0) (rs := 0) N1 (X1.virtualBack hx (y := own_mt12) (z := own_mt12) hown (mvT hZ (own_w hw 98 rfl)) (mvT hZ (own_w hw 99 rfl)) (notFace_of_selects (args := #[]) (mvT hZ (own_w hw 101 rfl))) (mvT hZ (own_w hw 101 rfl)) (mvT hZ (own_w hw 100 rfl)) (by decide) (backOf (W := 1) (rm12 l Z a0 hw [] a2 (xa) (xk) (ws) (kp) ((1 : Int32)) ((2 : Int32)) (fi) T1.heap n0 Z1 g_a2 ne_a2_xa p1_0 p1_1 p1_2 p1_3 p1_4 f5 (by decide) ⟨by decide, by decide⟩ (by decide) (own_hv (i := 1) (by decide) y1 (own_n01 h1i)) h1i) hZ (own_w hw 102 rfl) (own_w hw 41 rfl) (by decide) (by decide)) qv7a qv7c (g := (mkF m 32 #[own_R a1, own_R a2, own_N, own_I 0] [(.ref a2), (.ref a1)])) rfl (by rw [hml]; rfl) (Steps.refl _) (argsL := []) (rest := [(.ref a1)]) (lenOf pd_8_7 rfl) rfl (by show 2 * 0 + _ ≤ _; exact Nat.le_of_eq rfl) (hb hby d8_32) (fun _ _ => ⟨rfl, rfl, (by decide : 0 + 0 ≤ _), (by decide : 0 + 0 ≤ _)⟩))
  obtain ⟨rfl, N7q, Kq7, p7_0, p7_1, p7_2, p7_3, p7_4⟩ := hQ7
  have N7 := Nf7 N7q
  have f8 := f2.keep Kq7
  have f9 := f3.keep Kq7 (ninS ne_a1_a2 nin0)
  have f10 := f4.keep Kq7 (ninS ne_a1_a2 nin0)
  have f11 := f5.keep Kq7 (ninS (Ne.symm ne_a2_xa) nin0)
  have f12 := f6.keep Kq7 (allS (P := fun x => n0 ≤ x) g_a2 all0)
  have Z7 := Nat.le_trans Z1 Kq7.1
  have K7 := K1.trans Kq7 (allS (P := fun x => x ∈ [a1, a2, kp] ∨ h0.size ≤ x) (Or.inl (List.mem_of_getElem? (i := 1) rfl)) all0)
  refine own_tr st7 ?_
  try clear X1 st7 N1 N7q f2 f3 f4 f5 f6
  obtain ⟨w13, fo13⟩ := own_some (O := own_cL) (n := "inOrder") (d := "Z") (own_w hw 3 rfl) f8 f10 (Or.inl (own_w hw 19 rfl))
  obtain ⟨T14, h14, X14, e14, W14, st14⟩ := putFN X7 hx hZ hown (own_w hw 18 rfl) Via.refl rfl fo13 f8 (Or.inl (own_w hw 19 rfl)) (own_w hw 3 rfl) (ty := .boolean) (v' := .int (fi &&& 1)) (by decide) rfl (fits_nar_bool _) (g := (mkF m 35 #[own_R a1, own_R a2, own_N, own_I 0] [(.int fi), (.ref a1)])) rfl rfl (hb hby d8_35)
  have f15 := f8.wr W14
  have f16 := f9.other W14 (Or.inr (slot_ne (Or.inl (own_w hw 306 rfl)) (Or.inl (own_w hw 19 rfl)) (by decide) (t := (.object own_cB)) (t' := .boolean) (by decide) (by decide)))
  have f17 := f10.other W14 (Or.inr (slot_ne (Or.inl (own_w hw 22 rfl)) (Or.inl (own_w hw 19 rfl)) (by decide) (t := .long) (t' := .boolean) (by decide) (by decide)))
  have f18 := f11.other W14 (Ne.symm ne_a1_xa)
  have f19 := f12.wr W14 g_a1
  have f20 := p7_0.wr W14
  have f21 := p7_1.other W14 (Or.inl (Ne.symm ne_a1_a2))
  have f22 := p7_2.other W14 (Or.inl (Ne.symm ne_a1_a2))
  have f23 := p7_3.other W14 (Or.inl (Ne.symm ne_a1_a2))
  have f24 := p7_4.other W14 (Or.inl (Ne.symm ne_a1_a2))
  have N14 := Fr.snoc X14 N7 g_a1
  have Z14 := Nat.le_trans Z7 (Keep.of_wr W14).1
  have K14 := K7.wr W14 (Or.inl (List.mem_of_getElem? (i := 0) rfl))
  refine own_st st14 ?_
  try clear fo13 X7 st14 f8 f9 f10 f11 f12 p7_0 p7_1 p7_2 p7_3 p7_4
  refine own_xaloadN X14 hx hby d8_38 rfl rfl ?_
  obtain ⟨cq25, kq25, qv25a, qv25b, qv25c⟩ := isOf hZ e14 f20
  obtain ⟨_, T25, L25, Lc25, X25, hQ25, Nf25, st25⟩ := own_back (cells := 0) (slots := 0) (rc := 0) (rs := 0) N14 (X14.virtualBack hx (y := own_mt12) (z := own_mt12) hown (mvT hZ (own_w hw 98 rfl)) (mvT hZ (own_w hw 99 rfl)) (notFace_of_selects (args := #[]) (mvT hZ (own_w hw 101 rfl))) (mvT hZ (own_w hw 101 rfl)) (mvT hZ (own_w hw 100 rfl)) (by decide) (backOf (W := 0) (rm12 l Z a0 hw [] a2 (xa) (xk) (ws) (kp) ((2 : Int32)) ((3 : Int32)) ((0 : Int32)) h14 n0 Z14 g_a2 ne_a2_xa f20 f21 f22 f23 f24 f18 (by decide) ⟨by decide, by decide⟩ (by decide) (own_hv (i := 2) (by decide) y2 (by decide)) (Or.inl rfl)) hZ (own_w hw 102 rfl) (own_w hw 41 rfl) (by decide) (by decide)) qv25a qv25c (g := (mkF m 39 #[own_R a1, own_R a2, own_N, own_I 0] [(.ref a2)])) rfl (by rw [hml]; rfl) (Steps.refl _) (argsL := []) (rest := []) (lenOf pd_8_7 rfl) rfl (by show 2 * 0 + _ ≤ _; exact Nat.le_of_eq rfl) (hb hby d8_39) (fun _ _ => ⟨rfl, e14, (by decide : 0 + 0 ≤ _), (by decide : 0 + 0 ≤ _)⟩))
  obtain ⟨rfl, N25q, Kq25, p25_0, p25_1, p25_2, p25_3, p25_4⟩ := hQ25
  have N25 := Nf25 N25q
  have f26 := f15.keep Kq25
  have f27 := f16.keep Kq25 (ninS ne_a1_a2 nin0)
  have f28 := f17.keep Kq25 (ninS ne_a1_a2 nin0)
  have f29 := f18.keep Kq25 (ninS (Ne.symm ne_a2_xa) nin0)
  have f30 := f19.keep Kq25 (allS (P := fun x => n0 ≤ x) g_a2 all0)
  have Z25 := Nat.le_trans Z14 Kq25.1
  have K25 := K14.trans Kq25 (allS (P := fun x => x ∈ [a1, a2, kp] ∨ h0.size ≤ x) (Or.inl (List.mem_of_getElem? (i := 1) rfl)) all0)
  refine own_tr st25 ?_
  try clear X14 e14 st25 N14 N25q f15 f16 f17 f18 f19
  refine own_xifYes X25 hx hby d8_42 (pc0 := 42) (pc' := 81) ((if0 _ _).trans (teq (by decide : (0 : Int32) = (0 : Int32))).1) rfl (by decide) (by decide) ?_
  refine own_xaloadN X25 hx hby d8_81 rfl rfl ?_
  refine own_xaloadN X25 hx hby d8_82 rfl rfl ?_
  obtain ⟨cq31, kq31, qv31a, qv31b, qv31c⟩ := isOf hZ rfl p25_0
  obtain ⟨_, T31, L31, Lc31, X31, hQ31, Nf31, st31⟩ := own_back (cells := 0) (slots := 0) (rc := 0) (rs := 0) N25 (X25.virtualBack hx (y := own_mt13) (z := own_mt13) hown (mvT hZ (own_w hw 103 rfl)) (mvT hZ (own_w hw 104 rfl)) (notFace_of_selects (args := #[]) (mvT hZ (own_w hw 106 rfl))) (mvT hZ (own_w hw 106 rfl)) (mvT hZ (own_w hw 105 rfl)) (by decide) (backOf (W := 1) (rm13 l Z a0 hw [] a2 xx (xa) (xk) (ws) (kp) ((3 : Int32)) ((4 : Int32)) T25.heap n0 Z25 g_a2 ne_a2_xa p25_0 p25_1 p25_2 p25_3 p25_4 f29 (by assumption) (by decide) ⟨by decide, by decide⟩ (by decide) (own_hv (i := 3) (by decide) y3 (by decide))) hZ (own_w hw 107 rfl) (own_w hw 41 rfl) (by decide) (by decide)) qv31a qv31c (g := (mkF m 83 #[own_R a1, own_R a2, own_N, own_I 0] [(.ref a2), (.ref a1)])) rfl (by rw [hml]; rfl) (Steps.refl _) (argsL := []) (rest := [(.ref a1)]) (lenOf pd_8_8 rfl) rfl (by show 2 * 0 + _ ≤ _; exact Nat.le_of_eq rfl) (hb hby d8_83) (fun _ _ => ⟨rfl, rfl, (by decide : 0 + 0 ≤ _), (by decide : 0 + 0 ≤ _)⟩))
  obtain ⟨rfl, N31q, Kq31, p31_0, p31_1, p31_2, p31_3, p31_4⟩ := hQ31
  have N31 := Nf31 N31q
  have f32 := f26.keep Kq31
  have f33 := f27.keep Kq31 (ninS ne_a1_a2 nin0)
  have f34 := f28.keep Kq31 (ninS ne_a1_a2 nin0)
  have f35 := f29.keep Kq31 (ninS (Ne.symm ne_a2_xa) nin0)
  have f36 := f30.keep Kq31 (allS (P := fun x => n0 ≤ x) g_a2 all0)
  have Z31 := Nat.le_trans Z25 Kq31.1
  have K31 := K25.trans Kq31 (allS (P := fun x => x ∈ [a1, a2, kp] ∨ h0.size ≤ x) (Or.inl (List.mem_of_getElem? (i := 1) rfl)) all0)
  refine own_tr st31 ?_
  try clear X25 st31 N25 N31q f26 f27 f28 f29 f30
  obtain ⟨_, T37, L37, Lc37, X37, hQ37, Nf37, st37⟩ := own_backS (cells := 0) (slots := 0) (rc := 0) (rs := 0) N31 (Jvm.LawKit.callS X31 hx (y := own_mt15) hown (mvT hZ (own_w hw 119 rfl)) (mvT hZ (own_w hw 120 rfl)) (mvT hZ (own_w hw 4 rfl)) (mvT hZ (own_w hw 121 rfl)) (by decide) (backOf (W := 1) (rm15 l Z a0 hw []  T31.heap n0 Z31) hZ (own_w hw 121 rfl) (own_w hw 4 rfl) (by decide) (by decide)) (g := (mkF m 86 #[own_R a1, own_R a2, own_N, own_I 0] [.null, (.ref a1)])) rfl (by rw [hml]; rfl) (argsL := [.null]) (rest := [(.ref a1)]) (lenOf pd_8_10 rfl) rfl (by show 2 * 0 + _ ≤ _; exact Nat.le_of_eq rfl) (hb hby d8_86) (fun _ _ => ⟨rfl, rfl, (by decide : 0 + 0 ≤ _), (by decide : 0 + 0 ≤ _)⟩))
  obtain ⟨rfl, N37q, e37⟩ := hQ37
  have N37 := Nf37 N37q
  refine own_tr st37 ?_
  try clear X31 st37 N31 N37q
  obtain ⟨T38, h38, X38, e38, W38, st38⟩ := putF X37 hx hZ hown (host := "") (Or.inl (own_w hw 21 rfl)) Via.refl e37 f34 f32 (Or.inl (own_w hw 22 rfl)) (own_w hw 3 rfl) (ty := .long) (by decide) rfl rfl (g := (mkF m 89 #[own_R a1, own_R a2, own_N, own_I 0] [(.long (-9223372036854775808)), (.ref a1)])) rfl rfl (hb hby d8_89)
  have fw38 : Fld Z h38 a1 own_cL "lastFoldedDay" "J" (.long (-9223372036854775808)) := f34.same W38
  have f39 := f32.wr W38
  have f40 := f33.other W38 (Or.inr (slot_ne (Or.inl (own_w hw 306 rfl)) (Or.inl (own_w hw 22 rfl)) (by decide) (t := (.object own_cB)) (t' := .long) (by decide) (by decide)))
  have f41 := f35.other W38 (Ne.symm ne_a1_xa)
  have f42 := f36.wr W38 g_a1
  have f43 := p31_0.wr W38
  have f44 := p31_1.other W38 (Or.inl (Ne.symm ne_a1_a2))
  have f45 := p31_2.other W38 (Or.inl (Ne.symm ne_a1_a2))
  have f46 := p31_3.other W38 (Or.inl (Ne.symm ne_a1_a2))
  have f47 := p31_4.other W38 (Or.inl (Ne.symm ne_a1_a2))
  have N38 := Fr.snoc X38 N37 g_a1
  have Z38 := Nat.le_trans Z31 (Keep.of_wr W38).1
  have K38 := K31.wr W38 (Or.inl (List.mem_of_getElem? (i := 0) rfl))
  refine own_st st38 ?_
  try clear X37 e37 st38 f32 f33 f35 f36 p31_0 p31_1 p31_2 p31_3 p31_4
  refine own_tail8 hw Bd.admits hZ hx hby hml hown hnm (ldv := (-9223372036854775808 : Int64)) (cv := .null) (q0 := 4) (q1 := 5) (q2 := 6) (q3 := 7) (q4 := 8) (q5 := 9) (q6 := 10) (q7 := 11) (q8 := 12) (q9 := 13) (q10 := 14) (q11 := 15) HP g_a1 g_a2 g_kp ne_a1_a2 ne_a1_xa ne_a2_xa (X38.more (by decide) (by decide)) e38 N38 Z38 K38 f39 fw38 f40 f43 f44 f45 f46 f47 f41 f42 (by decide) (by decide) (by decide) (by decide) (by decide) (by decide) (by decide) (by decide) (by decide) (by decide) (by decide) (own_hv (i := 4) (by decide) y4 hl1) (own_hv (i := 5) (by decide) y5 (by decide)) (own_hv (i := 6) (by decide) y6 (by decide)) (own_hv (i := 7) (by decide) y7 (by decide)) (own_hv (i := 8) (by decide) y8 (by decide)) (own_hv (i := 9) (by decide) y9 (by decide)) (own_hv (i := 10) (by decide) y10 (by decide)) (own_hv (i := 11) (by decide) y11 (by decide)) (own_hv (i := 12) (by decide) y12 (by decide)) (own_hv (i := 13) (by decide) y13 (own_n01 h1s)) (own_hv (i := 14) (by decide) y14 (own_n01 h1h)) hl0 h1s h1h ?_
  intro T48 L48 h48 X48 e48 N48 Z48 K48 F48_0 F48_1 F48_2
  obtain ⟨fs, hr, hrun, hended, hW, hsame⟩ := X48.leave (v := none) (fun _ => rfl)
  refine ⟨_, X48.returnOut hx Bd.returns (hb hby d8_237) hr, fin _ _ _ hrun hended ?_ ⟨⟨_, rfl⟩, hW, hsame.mono (by decide) (by decide)⟩⟩
  show Q8 Z a1 a2 xx xa xk ws kp fi lb zs zh h0 n0 _ T48.heap _
  rw [e48]
  exact ⟨rfl, N48, K48, F48_0, F48_1, F48_2⟩
theorem ef_8d (m : MethodId) (x0 : Addr) (x1 : Addr) : entryFrame m #[(.ref x0), (.ref x1), .null] 4 = mkF m 0 #[own_R x0, own_R x1, own_N, .unset] [] := by first | (simp [entryFrame, mkF, argsToLocals, Value.category]; done) | rfl
def Q8d (Z : State) (a1 : Addr) (a2 : Addr) (xx : Nat → Nat) (xa : Addr) (xk : ClassId) (ws : List Int32) (kp : Addr) (fi : Int32) (lb : Int32) (zs : Int32) (zh : Int32) (vb0 : Int32) (vb1 : Int32) (vb2 : Int32) (h0 : Heap) (n0 : Nat) (v : Option Value) (h : Heap) (L : List Loc) : Prop := ∃ (ld : Int64), v = none ∧ Fr n0 L ∧ Keep h0 h [a1, a2, kp] ∧ (Exa Z h a1 own_cL) ∧ (Fld Z h a1 own_cL "lastFoldedDay" "J" (.long ld)) ∧ (Fld Z h a1 own_cL "carried" own_dB .null) ∧ (¬ ld = (-9223372036854775808 : Int64))
theorem rm8d (l : Launch) (Z : State) (a0 : Array Value) (hw : ∀ d ∈ tables_1, d.before a0 Z = true) (ws_ : List Jvm.Cond) (a1 : Addr) (a2 : Addr) (xx : Nat → Nat) (xa : Addr) (xk : ClassId) (ws : List Int32) (kp : Addr) (fi : Int32) (lb : Int32) (zs : Int32) (zh : Int32) (vb0 : Int32) (vb1 : Int32) (vb2 : Int32) (h0 : Heap) (n0 : Nat) (Z0 : n0 ≤ h0.size) (g_a1 : n0 ≤ a1) (g_a2 : n0 ≤ a2) (g_kp : n0 ≤ kp) (ne_a1_a2 : a1 ≠ a2) (ne_a1_xa : a1 ≠ xa) (ne_a2_xa : a2 ≠ xa) (ne_a1_kp : a1 ≠ kp) (ne_a2_kp : a2 ≠ kp) (ne_kp_xa : kp ≠ xa) (P0 : Exa Z h0 a1 own_cL) (P1 : Fld Z h0 a1 own_cL "carried" own_dB .null) (P2 : Fld Z h0 a1 own_cL "lastFoldedDay" "J" (.long (-9223372036854775808))) (P3 : Exa Z h0 a2 own_cR) (P4 : Fld Z h0 a2 own_cR "bytes" "[B" (.ref xa)) (P5 : Fld Z h0 a2 own_cR "position" "I" (.int 0)) (P6 : Fld Z h0 a2 own_cR "end" "I" (.int 24)) (P7 : Fld Z h0 a2 own_cR "kept" "Ljava/util/List;" (.ref kp)) (P8 : Arv Z h0 xa xk .byte (24 : Int32) (ws.map Value.int) (.int 0)) (P9 : Old Z n0 h0) (P10 : Exa Z h0 kp own_cA) (P11 : Fld Z h0 kp own_cA "elementData" "[Ljava/lang/Object;" (.ref (xx 0))) (P12 : Fld Z h0 kp "java/util/AbstractList" "modCount" "I" (.int 0)) (P13 : Fld Z h0 kp own_cA "size" "I" (.int 0)) (HP : own_P Z xx) (y0 : ws.getD 0 0 = 0) (y1 : ws.getD 1 0 = fi) (y2 : ws.getD 2 0 = 0) (y3 : ws.getD 3 0 = 2) (y4 : ws.getD 4 0 = vb0) (y5 : ws.getD 5 0 = vb1) (y6 : ws.getD 6 0 = vb2) (y7 : ws.getD 7 0 = lb) (y8 : ws.getD 8 0 = 0) (y9 : ws.getD 9 0 = 0) (y10 : ws.getD 10 0 = 0) (y11 : ws.getD 11 0 = 0) (y12 : ws.getD 12 0 = 0) (y13 : ws.getD 13 0 = 0) (y14 : ws.getD 14 0 = 0) (y15 : ws.getD 15 0 = 0) (y16 : ws.getD 16 0 = zs) (y17 : ws.getD 17 0 = zh) (h1i : fi = 0 ∨ fi = 1) (h1s : zs = 0 ∨ zs = 1) (h1h : zh = 0 ∨ zh = 1) (hl0 : ¬ lb < (0 : Int32)) (hl1 : nar .byte lb = lb) (hb0 : nar .byte vb0 = vb0) (hb1 : nar .byte vb1 = vb1) (hb2 : nar .byte vb2 = vb2) (hn0 : vb0 < (0 : Int32)) (hn1 : vb1 < (0 : Int32)) (hn2 : ¬ vb2 < (0 : Int32)) :
    own_Met l own_mt8 oB8 4 none ws_ ({ frames := 9, cells := 3, slots := 20, locals := 3087 } : Room) #[(.ref a1), (.ref a2), .null] Z h0 (Q8d Z a1 a2 xx xa xk ws kp fi lb zs zh vb0 vb1 vb2 h0 n0) := by
  refine own_met n0 (plainFor_of_name pn_8) (fun m => ef_8d m a1 a2) ?_
  intro p e s m below meth c s₁ Bd hZ hx hby hml hown' hnm X0 e0 N0 K fin
  have hown : s.vm.findClass own_cL = some m.cls := hown'
  show own_Go p e below K (s₁.setTop (mkF m 0 #[own_R a1, own_R a2, own_N, own_U] []))
  refine own_xaloadN X0 hx hby d8_0 rfl rfl ?_
  obtain ⟨cq1, kq1, qv1a, qv1b, qv1c⟩ := isOf hZ e0 P3
  obtain ⟨_, T1, L1, Lc1, X1, hQ1, Nf1, st1⟩ := own_back (cells := 0) (slots := 0) (rc := 0) (rs := 0) N0 (X0.virtualBack hx (y := own_mt9) (z := own_mt9) hown (mvT hZ (own_w hw 83 rfl)) (mvT hZ (own_w hw 84 rfl)) (notFace_of_selects (args := #[]) (mvT hZ (own_w hw 86 rfl))) (mvT hZ (own_w hw 86 rfl)) (mvT hZ (own_w hw 85 rfl)) (by decide) (backOf (W := 0) (rm9 l Z a0 hw [] a2 (xa) (xk) (ws) (kp) ((0 : Int32)) ((1 : Int32)) ((0 : Int32)) ((0 : Int64)) ((0 : Int32)) h0 n0 Z0 g_a2 ne_a2_xa P3 P4 P5 P6 P7 P8 (by decide) ⟨by decide, by decide⟩ (by decide) (own_hv (i := 0) (by decide) y0 (by decide)) (by decide) (by decide) (by decide) (by decide)) hZ (own_w hw 87 rfl) (own_w hw 41 rfl) (by decide) (by decide)) qv1a qv1c (g := (mkF m 1 #[own_R a1, own_R a2, own_N, own_U] [(.ref a2)])) rfl (by rw [hml]; rfl) (Steps.refl _) (argsL := []) (rest := []) (lenOf pd_8_4 rfl) rfl (by show 2 * 0 + _ ≤ _; exact Nat.le_of_eq rfl) (hb hby d8_1) (fun _ _ => ⟨rfl, e0, (by decide : 0 + 0 ≤ _), (by decide : 0 + 0 ≤ _)⟩))
  obtain ⟨rfl, N1q, Kq1, p1_0, p1_1, p1_2, p1_3, p1_4⟩ := hQ1
  have N1 := Nf1 N1q
  have f2 := P0.keep Kq1
  have f3 := P1.keep Kq1 (ninS ne_a1_a2 nin0)
  have f4 := P2.keep Kq1 (ninS ne_a1_a2 nin0)
  have f5 := P8.keep Kq1 (ninS (Ne.symm ne_a2_xa) nin0)
  have f6 := P9.keep Kq1 (allS (P := fun x => n0 ≤ x) g_a2 all0)
  have f7 := P10.keep Kq1
  have f8 := P11.keep Kq1 (ninS (Ne.symm ne_a2_kp) nin0)
  have f9 := P12.keep Kq1 (ninS (Ne.symm ne_a2_kp) nin0)
  have f10 := P13.keep Kq1 (ninS (Ne.symm ne_a2_kp) nin0)
  have Z1 := Nat.le_trans Z0 Kq1.1
  have K1 : Keep h0 T1.heap [a1, a2, kp] := (Keep.refl h0 [a1, a2, kp]).trans Kq1 (allS (P := fun x => x ∈ [a1, a2, kp] ∨ h0.size ≤ x) (Or.inl (List.mem_of_getElem? (i := 1) rfl)) all0)
  refine own_tr st1 ?_
  try clear st1 N1q P0 P1 P2 P8 P9 P10 P11 P12 P13
  refine own_xistoreN X1 hx hby d8_4 (l' := #[own_R a1, own_R a2, own_N, own_I 0]) rfl ?_
  refine own_xiloadN X1 hx hby d8_5 rfl ?_
  refine own_xifYes X1 hx hby d8_6 (pc0 := 6) (pc' := 30) ((if0 _ _).trans (flt (by decide : ¬ ((0 : Int32) < (0 : Int32)))).2.2.2) rfl (by decide) (by decide) ?_
  refine own_xaloadN X1 hx hby d8_30 rfl rfl ?_
  refine own_xaloadN X1 hx hby d8_31 rfl rfl ?_
  obtain ⟨cq11, kq11, qv11a, qv11b, qv11c⟩ := isOf hZ rfl p1_0
  obtain ⟨_, T11, L11, Lc11, X11, hQ11, Nf11, st11⟩ := own_back (cells := 0) (slots := 0) (rc := 0) (rs := 0) N1 (X1.virtualBack hx (y := own_mt12) (z := own_mt12) hown (mvT hZ (own_w hw 98 rfl)) (mvT hZ (own_w hw 99 rfl)) (notFace_of_selects (args := #[]) (mvT hZ (own_w hw 101 rfl))) (mvT hZ (own_w hw 101 rfl)) (mvT hZ (own_w hw 100 rfl)) (by decide) (backOf (W := 1) (rm12 l Z a0 hw [] a2 (xa) (xk) (ws) (kp) ((1 : Int32)) ((2 : Int32)) (fi) T1.heap n0 Z1 g_a2 ne_a2_xa p1_0 p1_1 p1_2 p1_3 p1_4 f5 (by decide) ⟨by decide, by decide⟩ (by decide) (own_hv (i := 1) (by decide) y1 (own_n01 h1i)) h1i) hZ (own_w hw 102 rfl) (own_w hw 41 rfl) (by decide) (by decide)) qv11a qv11c (g := (mkF m 32 #[own_R a1, own_R a2, own_N, own_I 0] [(.ref a2), (.ref a1)])) rfl (by rw [hml]; rfl) (Steps.refl _) (argsL := []) (rest := [(.ref a1)]) (lenOf pd_8_7 rfl) rfl (by show 2 * 0 + _ ≤ _; exact Nat.le_of_eq rfl) (hb hby d8_32) (fun _ _ => ⟨rfl, rfl, (by decide : 0 + 0 ≤ _), (by decide : 0 + 0 ≤ _)⟩))
  obtain ⟨rfl, N11q, Kq11, p11_0, p11_1, p11_2, p11_3, p11_4⟩ := hQ11
  have N11 := Nf11 N11q
  have f12 := f2.keep Kq11
  have f13 := f3.keep Kq11 (ninS ne_a1_a2 nin0)
  have f14 := f4.keep Kq11 (ninS ne_a1_a2 nin0)
  have f15 := f5.keep Kq11 (ninS (Ne.symm ne_a2_xa) nin0)
  have f16 := f6.keep Kq11 (allS (P := fun x => n0 ≤ x) g_a2 all0)
  have f17 := f7.keep Kq11
  have f18 := f8.keep Kq11 (ninS (Ne.symm ne_a2_kp) nin0)
  have f19 := f9.keep Kq11 (ninS (Ne.symm ne_a2_kp) nin0)
  have f20 := f10.keep Kq11 (ninS (Ne.symm ne_a2_kp) nin0)
  have Z11 := Nat.le_trans Z1 Kq11.1
  have K11 := K1.trans Kq11 (allS (P := fun x => x ∈ [a1, a2, kp] ∨ h0.size ≤ x) (Or.inl (List.mem_of_getElem? (i := 1) rfl)) all0)
  refine own_tr st11 ?_
  try clear X1 st11 N1 N11q f2 f3 f4 f5 f6 f7 f8 f9 f10
  obtain ⟨w21, fo21⟩ := own_some (O := own_cL) (n := "inOrder") (d := "Z") (own_w hw 3 rfl) f12 f14 (Or.inl (own_w hw 19 rfl))
  obtain ⟨T22, h22, X22, e22, W22, st22⟩ := putFN X11 hx hZ hown (own_w hw 18 rfl) Via.refl rfl fo21 f12 (Or.inl (own_w hw 19 rfl)) (own_w hw 3 rfl) (ty := .boolean) (v' := .int (fi &&& 1)) (by decide) rfl (fits_nar_bool _) (g := (mkF m 35 #[own_R a1, own_R a2, own_N, own_I 0] [(.int fi), (.ref a1)])) rfl rfl (hb hby d8_35)
  have f23 := f12.wr W22
  have f24 := f13.other W22 (Or.inr (slot_ne (Or.inl (own_w hw 306 rfl)) (Or.inl (own_w hw 19 rfl)) (by decide) (t := (.object own_cB)) (t' := .boolean) (by decide) (by decide)))
  have f25 := f14.other W22 (Or.inr (slot_ne (Or.inl (own_w hw 22 rfl)) (Or.inl (own_w hw 19 rfl)) (by decide) (t := .long) (t' := .boolean) (by decide) (by decide)))
  have f26 := f15.other W22 (Ne.symm ne_a1_xa)
  have f27 := f16.wr W22 g_a1
  have f28 := f17.wr W22
  have f29 := f18.other W22 (Or.inl (Ne.symm ne_a1_kp))
  have f30 := f19.other W22 (Or.inl (Ne.symm ne_a1_kp))
  have f31 := f20.other W22 (Or.inl (Ne.symm ne_a1_kp))
  have f32 := p11_0.wr W22
  have f33 := p11_1.other W22 (Or.inl (Ne.symm ne_a1_a2))
  have f34 := p11_2.other W22 (Or.inl (Ne.symm ne_a1_a2))
  have f35 := p11_3.other W22 (Or.inl (Ne.symm ne_a1_a2))
  have f36 := p11_4.other W22 (Or.inl (Ne.symm ne_a1_a2))
  have N22 := Fr.snoc X22 N11 g_a1
  have Z22 := Nat.le_trans Z11 (Keep.of_wr W22).1
  have K22 := K11.wr W22 (Or.inl (List.mem_of_getElem? (i := 0) rfl))
  refine own_st st22 ?_
  try clear fo21 X11 st22 f12 f13 f14 f15 f16 f17 f18 f19 f20 p11_0 p11_1 p11_2 p11_3 p11_4
  refine own_xaloadN X22 hx hby d8_38 rfl rfl ?_
  obtain ⟨cq37, kq37, qv37a, qv37b, qv37c⟩ := isOf hZ e22 f32
  obtain ⟨_, T37, L37, Lc37, X37, hQ37, Nf37, st37⟩ := own_back (cells := 0) (slots := 0) (rc := 0) (rs := 0) N22 (X22.virtualBack hx (y := own_mt12) (z := own_mt12) hown (mvT hZ (own_w hw 98 rfl)) (mvT hZ (own_w hw 99 rfl)) (notFace_of_selects (args := #[]) (mvT hZ (own_w hw 101 rfl))) (mvT hZ (own_w hw 101 rfl)) (mvT hZ (own_w hw 100 rfl)) (by decide) (backOf (W := 0) (rm12 l Z a0 hw [] a2 (xa) (xk) (ws) (kp) ((2 : Int32)) ((3 : Int32)) ((0 : Int32)) h22 n0 Z22 g_a2 ne_a2_xa f32 f33 f34 f35 f36 f26 (by decide) ⟨by decide, by decide⟩ (by decide) (own_hv (i := 2) (by decide) y2 (by decide)) (Or.inl rfl)) hZ (own_w hw 102 rfl) (own_w hw 41 rfl) (by decide) (by decide)) qv37a qv37c (g := (mkF m 39 #[own_R a1, own_R a2, own_N, own_I 0] [(.ref a2)])) rfl (by rw [hml]; rfl) (Steps.refl _) (argsL := []) (rest := []) (lenOf pd_8_7 rfl) rfl (by show 2 * 0 + _ ≤ _; exact Nat.le_of_eq rfl) (hb hby d8_39) (fun _ _ => ⟨rfl, e22, (by decide : 0 + 0 ≤ _), (by decide : 0 + 0 ≤ _)⟩))
  obtain ⟨rfl, N37q, Kq37, p37_0, p37_1, p37_2, p37_3, p37_4⟩ := hQ37
  have N37 := Nf37 N37q
  have f38 := f23.keep Kq37
  have f39 := f24.keep Kq37 (ninS ne_a1_a2 nin0)
  have f40 := f25.keep Kq37 (ninS ne_a1_a2 nin0)
  have f41 := f26.keep Kq37 (ninS (Ne.symm ne_a2_xa) nin0)
  have f42 := f27.keep Kq37 (allS (P := fun x => n0 ≤ x) g_a2 all0)
  have f43 := f28.keep Kq37
  have f44 := f29.keep Kq37 (ninS (Ne.symm ne_a2_kp) nin0)
  have f45 := f30.keep Kq37 (ninS (Ne.symm ne_a2_kp) nin0)
  have f46 := f31.keep Kq37 (ninS (Ne.symm ne_a2_kp) nin0)
  have Z37 := Nat.le_trans Z22 Kq37.1
  have K37 := K22.trans Kq37 (allS (P := fun x => x ∈ [a1, a2, kp] ∨ h0.size ≤ x) (Or.inl (List.mem_of_getElem? (i := 1) rfl)) all0)
  refine own_tr st37 ?_
  try clear X22 e22 st37 N22 N37q f23 f24 f25 f26 f27 f28 f29 f30 f31
  refine own_xifYes X37 hx hby d8_42 (pc0 := 42) (pc' := 81) ((if0 _ _).trans (teq (by decide : (0 : Int32) = (0 : Int32))).1) rfl (by decide) (by decide) ?_
  refine own_xaloadN X37 hx hby d8_81 rfl rfl ?_
  refine own_xaloadN X37 hx hby d8_82 rfl rfl ?_
  obtain ⟨cq47, kq47, qv47a, qv47b, qv47c⟩ := isOf hZ rfl p37_0
  obtain ⟨_, T47, L47, Lc47, X47, hQ47, Nf47, st47⟩ := own_back (cells := 0) (slots := 0) (rc := 2) (rs := 13) N37 (X37.virtualBack hx (y := own_mt13) (z := own_mt13) hown (mvT hZ (own_w hw 103 rfl)) (mvT hZ (own_w hw 104 rfl)) (notFace_of_selects (args := #[]) (mvT hZ (own_w hw 106 rfl))) (mvT hZ (own_w hw 106 rfl)) (mvT hZ (own_w hw 105 rfl)) (by decide) (backOf (W := 1) (rm13d l Z a0 hw [] a2 xx (xa) (xk) (ws) (kp) ((3 : Int32)) ((4 : Int32)) ((5 : Int32)) ((6 : Int32)) ((7 : Int32)) (vb0) (vb1) (vb2) T37.heap n0 Z37 g_a2 g_kp ne_a2_xa ne_a2_kp ne_kp_xa p37_0 p37_1 p37_2 p37_3 p37_4 f41 f43 f44 f45 f46 f42 (by assumption) (by decide) ⟨by decide, by decide⟩ (by decide) (own_hv (i := 3) (by decide) y3 (by decide)) (by decide) ⟨by decide, by decide⟩ (by decide) (own_hv (i := 4) (by decide) y4 hb0) (by decide) ⟨by decide, by decide⟩ (by decide) (own_hv (i := 5) (by decide) y5 hb1) (by decide) ⟨by decide, by decide⟩ (by decide) (own_hv (i := 6) (by decide) y6 hb2) hn0 hn1 hn2) hZ (own_w hw 107 rfl) (own_w hw 41 rfl) (by decide) (by decide)) qv47a qv47c (g := (mkF m 83 #[own_R a1, own_R a2, own_N, own_I 0] [(.ref a2), (.ref a1)])) rfl (by rw [hml]; rfl) (Steps.refl _) (argsL := []) (rest := [(.ref a1)]) (lenOf pd_8_8 rfl) rfl (by show 2 * 0 + _ ≤ _; exact Nat.le_of_eq rfl) (hb hby d8_83) (fun _ _ => ⟨rfl, rfl, (by decide : 0 + 2 ≤ _), (by decide : 0 + 13 ≤ _)⟩))
  obtain ⟨r47, yv_47, mv_47, dv_47, rfl, hr47, fr47, N47q, Kq47, p47_0, p47_1, p47_2, p47_3, p47_4, p47_5, p47_6, p47_7, p47_8⟩ := hQ47
  have N47 := Nf47 N47q
  have ne_a1_r47 : a1 ≠ r47 := Nat.ne_of_lt (Nat.lt_of_lt_of_le f38.lt fr47)
  have ne_a2_r47 : a2 ≠ r47 := Nat.ne_of_lt (Nat.lt_of_lt_of_le p37_0.lt fr47)
  have ne_kp_r47 : kp ≠ r47 := Nat.ne_of_lt (Nat.lt_of_lt_of_le f43.lt fr47)
  have ne_xa_r47 : xa ≠ r47 := Nat.ne_of_lt (Nat.lt_of_lt_of_le f41.lt fr47)
  have g_r47 : n0 ≤ r47 := Nat.le_trans Z37 fr47
  have sz_r47 : h0.size ≤ r47 := Nat.le_trans K37.1 fr47
  have f48 := f38.keep Kq47
  have f49 := f39.keep Kq47 (ninS ne_a1_a2 (ninS ne_a1_kp nin0))
  have f50 := f40.keep Kq47 (ninS ne_a1_a2 (ninS ne_a1_kp nin0))
  have f51 := f41.keep Kq47 (ninS (Ne.symm ne_a2_xa) (ninS (Ne.symm ne_kp_xa) nin0))
  have f52 := f42.keep Kq47 (allS (P := fun x => n0 ≤ x) g_a2 (allS (P := fun x => n0 ≤ x) g_kp all0))
  have f53 := f43.keep Kq47
  have Z47 := Nat.le_trans Z37 Kq47.1
  have K47 := K37.trans Kq47 (allS (P := fun x => x ∈ [a1, a2, kp] ∨ h0.size ≤ x) (Or.inl (List.mem_of_getElem? (i := 1) rfl)) (allS (P := fun x => x ∈ [a1, a2, kp] ∨ h0.size ≤ x) (Or.inl (List.mem_of_getElem? (i := 2) rfl)) all0))
  refine own_tr st47 ?_
  try clear X37 st47 N37 N47q f38 f39 f40 f41 f42 f43
  obtain ⟨_, T54, L54, Lc54, X54, hQ54, Nf54, st54⟩ := own_backS (cells := 2) (slots := 13) (rc := 0) (rs := 0) N47 (Jvm.LawKit.callS X47 hx (y := own_mt15) hown (mvT hZ (own_w hw 119 rfl)) (mvT hZ (own_w hw 120 rfl)) (mvT hZ (own_w hw 4 rfl)) (mvT hZ (own_w hw 121 rfl)) (by decide) (backOf (W := 1) (rm15d l Z a0 hw [] r47 xx (yv_47) (mv_47) (dv_47) T47.heap n0 Z47 p47_5 p47_6 p47_7 p47_8 f52 (by assumption)) hZ (own_w hw 121 rfl) (own_w hw 4 rfl) (by decide) (by decide)) (g := (mkF m 86 #[own_R a1, own_R a2, own_N, own_I 0] [(.ref r47), (.ref a1)])) rfl (by rw [hml]; rfl) (argsL := [(.ref r47)]) (rest := [(.ref a1)]) (lenOf pd_8_10 rfl) rfl (by show 2 * 0 + _ ≤ _; exact Nat.le_of_eq rfl) (hb hby d8_86) (fun _ _ => ⟨rfl, rfl, (by decide : 2 + 0 ≤ _), (by decide : 13 + 0 ≤ _)⟩))
  obtain ⟨r54, rfl, hr54, N54q, e54⟩ := hQ54
  have N54 := Nf54 N54q
  refine own_tr st54 ?_
  try clear X47 st54 N47 N54q
  obtain ⟨T55, h55, X55, e55, W55, st55⟩ := putF X54 hx hZ hown (host := "") (Or.inl (own_w hw 21 rfl)) Via.refl e54 f50 f48 (Or.inl (own_w hw 22 rfl)) (own_w hw 3 rfl) (ty := .long) (by decide) rfl rfl (g := (mkF m 89 #[own_R a1, own_R a2, own_N, own_I 0] [(.long r54), (.ref a1)])) rfl rfl (hb hby d8_89)
  have fw55 : Fld Z h55 a1 own_cL "lastFoldedDay" "J" (.long r54) := f50.same W55
  have f56 := f48.wr W55
  have f57 := f49.other W55 (Or.inr (slot_ne (Or.inl (own_w hw 306 rfl)) (Or.inl (own_w hw 22 rfl)) (by decide) (t := (.object own_cB)) (t' := .long) (by decide) (by decide)))
  have f58 := f51.other W55 (Ne.symm ne_a1_xa)
  have f59 := f52.wr W55 g_a1
  have f60 := f53.wr W55
  have f61 := p47_0.wr W55
  have f62 := p47_1.other W55 (Or.inl (Ne.symm ne_a1_a2))
  have f63 := p47_2.other W55 (Or.inl (Ne.symm ne_a1_a2))
  have f64 := p47_3.other W55 (Or.inl (Ne.symm ne_a1_a2))
  have f65 := p47_4.other W55 (Or.inl (Ne.symm ne_a1_a2))
  have f66 := p47_5.wr W55
  have f67 := p47_6.other W55 (Or.inl (Ne.symm ne_a1_r47))
  have f68 := p47_7.other W55 (Or.inl (Ne.symm ne_a1_r47))
  have f69 := p47_8.other W55 (Or.inl (Ne.symm ne_a1_r47))
  have N55 := Fr.snoc X55 N54 g_a1
  have Z55 := Nat.le_trans Z47 (Keep.of_wr W55).1
  have K55 := K47.wr W55 (Or.inl (List.mem_of_getElem? (i := 0) rfl))
  refine own_st st55 ?_
  try clear X54 e54 st55 f48 f49 f51 f52 f53 p47_0 p47_1 p47_2 p47_3 p47_4 p47_5 p47_6 p47_7 p47_8
  refine own_tail8 hw Bd.admits hZ hx hby hml hown hnm (ldv := r54) (cv := .null) (q0 := 7) (q1 := 8) (q2 := 9) (q3 := 10) (q4 := 11) (q5 := 12) (q6 := 13) (q7 := 14) (q8 := 15) (q9 := 16) (q10 := 17) (q11 := 18) HP g_a1 g_a2 g_kp ne_a1_a2 ne_a1_xa ne_a2_xa (X55.more (by decide) (by decide)) e55 N55 Z55 K55 f56 fw55 f57 f61 f62 f63 f64 f65 f58 f59 (by decide) (by decide) (by decide) (by decide) (by decide) (by decide) (by decide) (by decide) (by decide) (by decide) (by decide) (own_hv (i := 7) (by decide) y7 hl1) (own_hv (i := 8) (by decide) y8 (by decide)) (own_hv (i := 9) (by decide) y9 (by decide)) (own_hv (i := 10) (by decide) y10 (by decide)) (own_hv (i := 11) (by decide) y11 (by decide)) (own_hv (i := 12) (by decide) y12 (by decide)) (own_hv (i := 13) (by decide) y13 (by decide)) (own_hv (i := 14) (by decide) y14 (by decide)) (own_hv (i := 15) (by decide) y15 (by decide)) (own_hv (i := 16) (by decide) y16 (own_n01 h1s)) (own_hv (i := 17) (by decide) y17 (own_n01 h1h)) hl0 h1s h1h ?_
  intro T70 L70 h70 X70 e70 N70 Z70 K70 F70_0 F70_1 F70_2
  obtain ⟨fs, hr, hrun, hended, hW, hsame⟩ := X70.leave (v := none) (fun _ => rfl)
  refine ⟨_, X70.returnOut hx Bd.returns (hb hby d8_237) hr, fin _ _ _ hrun hended ?_ ⟨⟨_, rfl⟩, hW, hsame.mono (by decide) (by decide)⟩⟩
  show Q8d Z a1 a2 xx xa xk ws kp fi lb zs zh vb0 vb1 vb2 h0 n0 _ T70.heap _
  rw [e70]
  exact ⟨r54, rfl, N70, K70, F70_0, F70_1, F70_2, hr54⟩
theorem d8_45 : decode oB8 45 = .ok (.aload_n 0, 1) := by decide +kernel
theorem d8_46 : decode oB8 46 = .ok (.getfield 43, 3) := by decide +kernel
theorem d8_49 : decode oB8 49 = .ok (.ifnonnull 13, 3) := by decide +kernel
theorem d8_62 : decode oB8 62 = .ok (.aload_n 0, 1) := by decide +kernel
theorem d8_63 : decode oB8 63 = .ok (.aload_n 0, 1) := by decide +kernel
theorem d8_64 : decode oB8 64 = .ok (.getfield 43, 3) := by decide +kernel
theorem d8_67 : decode oB8 67 = .ok (.invokevirtual 92, 3) := by decide +kernel
theorem d8_70 : decode oB8 70 = .ok (.putfield 98, 3) := by decide +kernel
theorem d8_73 : decode oB8 73 = .ok (.aload_n 0, 1) := by decide +kernel
theorem d8_74 : decode oB8 74 = .ok (.getfield 98, 3) := by decide +kernel
theorem d8_77 : decode oB8 77 = .ok (.aload_n 1, 1) := by decide +kernel
theorem d8_78 : decode oB8 78 = .ok (.invokevirtual 102, 3) := by decide +kernel
theorem ef_8k (m : MethodId) (x0 : Addr) (x1 : Addr) : entryFrame m #[(.ref x0), (.ref x1), .null] 4 = mkF m 0 #[own_R x0, own_R x1, own_N, .unset] [] := by first | (simp [entryFrame, mkF, argsToLocals, Value.category]; done) | rfl
def Q8k (Z : State) (a1 : Addr) (a2 : Addr) (xx : Nat → Nat) (xa : Addr) (xk : ClassId) (ws : List Int32) (kp : Addr) (fi : Int32) (lb : Int32) (zs : Int32) (zh : Int32) (fo : Addr) (h0 : Heap) (n0 : Nat) (v : Option Value) (h : Heap) (L : List Loc) : Prop := ∃ (cr : Addr), v = none ∧ Fr n0 L ∧ Keep h0 h [a1, a2, kp] ∧ (Exa Z h a1 own_cL) ∧ (Fld Z h a1 own_cL "lastFoldedDay" "J" (.long (-9223372036854775808))) ∧ (Fld Z h a1 own_cL "carried" own_dB (.ref cr))
theorem rm8k (l : Launch) (Z : State) (a0 : Array Value) (hw : ∀ d ∈ tables_1, d.before a0 Z = true) (ws_ : List Jvm.Cond) (a1 : Addr) (a2 : Addr) (xx : Nat → Nat) (xa : Addr) (xk : ClassId) (ws : List Int32) (kp : Addr) (fi : Int32) (lb : Int32) (zs : Int32) (zh : Int32) (fo : Addr) (h0 : Heap) (n0 : Nat) (Z0 : n0 ≤ h0.size) (g_a1 : n0 ≤ a1) (g_a2 : n0 ≤ a2) (g_kp : n0 ≤ kp) (ne_a1_a2 : a1 ≠ a2) (ne_a1_xa : a1 ≠ xa) (ne_a2_xa : a2 ≠ xa) (ne_a1_fo : a1 ≠ fo) (ne_a2_fo : a2 ≠ fo) (P0 : Exa Z h0 a1 own_cL) (P1 : Fld Z h0 a1 own_cL "carried" own_dB .null) (P2 : Fld Z h0 a1 own_cL "folding" own_dF (.ref fo)) (P3 : Fld Z h0 a1 own_cL "lastFoldedDay" "J" (.long (-9223372036854775808))) (P4 : Exa Z h0 a2 own_cR) (P5 : Fld Z h0 a2 own_cR "bytes" "[B" (.ref xa)) (P6 : Fld Z h0 a2 own_cR "position" "I" (.int 0)) (P7 : Fld Z h0 a2 own_cR "end" "I" (.int 24)) (P8 : Fld Z h0 a2 own_cR "kept" "Ljava/util/List;" (.ref kp)) (P9 : Arv Z h0 xa xk .byte (24 : Int32) (ws.map Value.int) (.int 0)) (P10 : Old Z n0 h0) (P11 : Exa Z h0 fo own_cF) (P12 : Fld Z h0 fo own_cF "funds" "Lcom/example/deferline/deferline/market/Funds;" .null) (P13 : Fld Z h0 fo own_cF "calendar" "Lcom/example/deferline/deferline/market/TradingCalendar;" .null) (HP : own_P Z xx) (y0 : ws.getD 0 0 = 0) (y1 : ws.getD 1 0 = fi) (y2 : ws.getD 2 0 = 1) (y3 : ws.getD 3 0 = 0) (y4 : ws.getD 4 0 = 0) (y5 : ws.getD 5 0 = lb) (y6 : ws.getD 6 0 = 0) (y7 : ws.getD 7 0 = 0) (y8 : ws.getD 8 0 = 0) (y9 : ws.getD 9 0 = 0) (y10 : ws.getD 10 0 = 0) (y11 : ws.getD 11 0 = 0) (y12 : ws.getD 12 0 = 0) (y13 : ws.getD 13 0 = 0) (y14 : ws.getD 14 0 = zs) (y15 : ws.getD 15 0 = zh) (h1i : fi = 0 ∨ fi = 1) (h1s : zs = 0 ∨ zs = 1) (h1h : zh = 0 ∨ zh = 1) (hl0 : ¬ lb < (0 : Int32)) (hl1 : nar .byte lb = lb) :
    own_Met l own_mt8 oB8 4 none ws_ ({ frames := 9, cells := 3, slots := 20, locals := 3087 } : Room) #[(.ref a1), (.ref a2), .null] Z h0 (Q8k Z a1 a2 xx xa xk ws kp fi lb zs zh fo h0 n0) := by
  refine own_met n0 (plainFor_of_name pn_8) (fun m => ef_8k m a1 a2) ?_
  intro p e s m below meth c s₁ Bd hZ hx hby hml hown' hnm X0 e0 N0 K fin
  have hown : s.vm.findClass own_cL = some m.cls := hown'
  show own_Go p e below K (s₁.setTop (mkF m 0 #[own_R a1, own_R a2, own_N, own_U] []))
  refine own_xaloadN X0 hx hby d8_0 rfl rfl ?_
  obtain ⟨cq1, kq1, qv1a, qv1b, qv1c⟩ := isOf hZ e0 P4
  obtain ⟨_, T1, L1, Lc1, X1, hQ1, Nf1, st1⟩ := own_back (cells := 0) (slots := 0) (rc := 0) (rs := 0) N0 (X0.virtualBack hx (y := own_mt9) (z := own_mt9) hown (mvT hZ (own_w hw 83 rfl)) (mvT hZ (own_w hw 84 rfl)) (notFace_of_selects (args := #[]) (mvT hZ (own_w hw 86 rfl))) (mvT hZ (own_w hw 86 rfl)) (mvT hZ (own_w hw 85 rfl)) (by decide) (backOf (W := 0) (rm9 l Z a0 hw [] a2 (xa) (xk) (ws) (kp) ((0 : Int32)) ((1 : Int32)) ((0 : Int32)) ((0 : Int64)) ((0 : Int32)) h0 n0 Z0 g_a2 ne_a2_xa P4 P5 P6 P7 P8 P9 (by decide) ⟨by decide, by decide⟩ (by decide) (own_hv (i := 0) (by decide) y0 (by decide)) (by decide) (by decide) (by decide) (by decide)) hZ (own_w hw 87 rfl) (own_w hw 41 rfl) (by decide) (by decide)) qv1a qv1c (g := (mkF m 1 #[own_R a1, own_R a2, own_N, own_U] [(.ref a2)])) rfl (by rw [hml]; rfl) (Steps.refl _) (argsL := []) (rest := []) (lenOf pd_8_4 rfl) rfl (by show 2 * 0 + _ ≤ _; exact Nat.le_of_eq rfl) (hb hby d8_1) (fun _ _ => ⟨rfl, e0, (by decide : 0 + 0 ≤ _), (by decide : 0 + 0 ≤ _)⟩))
  obtain ⟨rfl, N1q, Kq1, p1_0, p1_1, p1_2, p1_3, p1_4⟩ := hQ1
  have N1 := Nf1 N1q
  have f2 := P0.keep Kq1
  have f3 := P1.keep Kq1 (ninS ne_a1_a2 nin0)
  have f4 := P2.keep Kq1 (ninS ne_a1_a2 nin0)
  have f5 := P3.keep Kq1 (ninS ne_a1_a2 nin0)
  have f6 := P9.keep Kq1 (ninS (Ne.symm ne_a2_xa) nin0)
  have f7 := P10.keep Kq1 (allS (P := fun x => n0 ≤ x) g_a2 all0)
  have f8 := P11.keep Kq1
  have f9 := P12.keep Kq1 (ninS (Ne.symm ne_a2_fo) nin0)
  have f10 := P13.keep Kq1 (ninS (Ne.symm ne_a2_fo) nin0)
  have Z1 := Nat.le_trans Z0 Kq1.1
  have K1 : Keep h0 T1.heap [a1, a2, kp] := (Keep.refl h0 [a1, a2, kp]).trans Kq1 (allS (P := fun x => x ∈ [a1, a2, kp] ∨ h0.size ≤ x) (Or.inl (List.mem_of_getElem? (i := 1) rfl)) all0)
  refine own_tr st1 ?_
  try clear st1 N1q P0 P1 P2 P3 P9 P10 P11 P12 P13
  refine own_xistoreN X1 hx hby d8_4 (l' := #[own_R a1, own_R a2, own_N, own_I 0]) rfl ?_
  refine own_xiloadN X1 hx hby d8_5 rfl ?_
  refine own_xifYes X1 hx hby d8_6 (pc0 := 6) (pc' := 30) ((if0 _ _).trans (flt (by decide : ¬ ((0 : Int32) < (0 : Int32)))).2.2.2) rfl (by decide) (by decide) ?_
  refine own_xaloadN X1 hx hby d8_30 rfl rfl ?_
  refine own_xaloadN X1 hx hby d8_31 rfl rfl ?_
  obtain ⟨cq11, kq11, qv11a, qv11b, qv11c⟩ := isOf hZ rfl p1_0
  obtain ⟨_, T11, L11, Lc11, X11, hQ11, Nf11, st11⟩ := own_back (cells := 0) (slots := 0) (rc := 0) (rs := 0) N1 (X1.virtualBack hx (y := own_mt12) (z := own_mt12) hown (mvT hZ (own_w hw 98 rfl)) (mvT hZ (own_w hw 99 rfl)) (notFace_of_selects (args := #[]) (mvT hZ (own_w hw 101 rfl))) (mvT hZ (own_w hw 101 rfl)) (mvT hZ (own_w hw 100 rfl)) (by decide) (backOf (W := 1) (rm12 l Z a0 hw [] a2 (xa) (xk) (ws) (kp) ((1 : Int32)) ((2 : Int32)) (fi) T1.heap n0 Z1 g_a2 ne_a2_xa p1_0 p1_1 p1_2 p1_3 p1_4 f6 (by decide) ⟨by decide, by decide⟩ (by decide) (own_hv (i := 1) (by decide) y1 (own_n01 h1i)) h1i) hZ (own_w hw 102 rfl) (own_w hw 41 rfl) (by decide) (by decide)) qv11a qv11c (g := (mkF m 32 #[own_R a1, own_R a2, own_N, own_I 0] [(.ref a2), (.ref a1)])) rfl (by rw [hml]; rfl) (Steps.refl _) (argsL := []) (rest := [(.ref a1)]) (lenOf pd_8_7 rfl) rfl (by show 2 * 0 + _ ≤ _; exact Nat.le_of_eq rfl) (hb hby d8_32) (fun _ _ => ⟨rfl, rfl, (by decide : 0 + 0 ≤ _), (by decide : 0 + 0 ≤ _)⟩))
  obtain ⟨rfl, N11q, Kq11, p11_0, p11_1, p11_2, p11_3, p11_4⟩ := hQ11
  have N11 := Nf11 N11q
  have f12 := f2.keep Kq11
  have f13 := f3.keep Kq11 (ninS ne_a1_a2 nin0)
  have f14 := f4.keep Kq11 (ninS ne_a1_a2 nin0)
  have f15 := f5.keep Kq11 (ninS ne_a1_a2 nin0)
  have f16 := f6.keep Kq11 (ninS (Ne.symm ne_a2_xa) nin0)
  have f17 := f7.keep Kq11 (allS (P := fun x => n0 ≤ x) g_a2 all0)
  have f18 := f8.keep Kq11
  have f19 := f9.keep Kq11 (ninS (Ne.symm ne_a2_fo) nin0)
  have f20 := f10.keep Kq11 (ninS (Ne.symm ne_a2_fo) nin0)
  have Z11 := Nat.le_trans Z1 Kq11.1
  have K11 := K1.trans Kq11 (allS (P := fun x => x ∈ [a1, a2, kp] ∨ h0.size ≤ x) (Or.inl (List.mem_of_getElem? (i := 1) rfl)) all0)
  refine own_tr st11 ?_
  try clear X1 st11 N1 N11q f2 f3 f4 f5 f6 f7 f8 f9 f10
  obtain ⟨w21, fo21⟩ := own_some (O := own_cL) (n := "inOrder") (d := "Z") (own_w hw 3 rfl) f12 f15 (Or.inl (own_w hw 19 rfl))
  obtain ⟨T22, h22, X22, e22, W22, st22⟩ := putFN X11 hx hZ hown (own_w hw 18 rfl) Via.refl rfl fo21 f12 (Or.inl (own_w hw 19 rfl)) (own_w hw 3 rfl) (ty := .boolean) (v' := .int (fi &&& 1)) (by decide) rfl (fits_nar_bool _) (g := (mkF m 35 #[own_R a1, own_R a2, own_N, own_I 0] [(.int fi), (.ref a1)])) rfl rfl (hb hby d8_35)
  have f23 := f12.wr W22
  have f24 := f13.other W22 (Or.inr (slot_ne (Or.inl (own_w hw 306 rfl)) (Or.inl (own_w hw 19 rfl)) (by decide) (t := (.object own_cB)) (t' := .boolean) (by decide) (by decide)))
  have f25 := f14.other W22 (Or.inr (slot_ne (Or.inr (own_w hw 32 rfl)) (Or.inl (own_w hw 19 rfl)) (by decide) (t := (.object own_cF)) (t' := .boolean) (by decide) (by decide)))
  have f26 := f15.other W22 (Or.inr (slot_ne (Or.inl (own_w hw 22 rfl)) (Or.inl (own_w hw 19 rfl)) (by decide) (t := .long) (t' := .boolean) (by decide) (by decide)))
  have f27 := f16.other W22 (Ne.symm ne_a1_xa)
  have f28 := f17.wr W22 g_a1
  have f29 := f18.wr W22
  have f30 := f19.other W22 (Or.inl (Ne.symm ne_a1_fo))
  have f31 := f20.other W22 (Or.inl (Ne.symm ne_a1_fo))
  have f32 := p11_0.wr W22
  have f33 := p11_1.other W22 (Or.inl (Ne.symm ne_a1_a2))
  have f34 := p11_2.other W22 (Or.inl (Ne.symm ne_a1_a2))
  have f35 := p11_3.other W22 (Or.inl (Ne.symm ne_a1_a2))
  have f36 := p11_4.other W22 (Or.inl (Ne.symm ne_a1_a2))
  have N22 := Fr.snoc X22 N11 g_a1
  have Z22 := Nat.le_trans Z11 (Keep.of_wr W22).1
  have K22 := K11.wr W22 (Or.inl (List.mem_of_getElem? (i := 0) rfl))
  refine own_st st22 ?_
  try clear fo21 X11 st22 f12 f13 f14 f15 f16 f17 f18 f19 f20 p11_0 p11_1 p11_2 p11_3 p11_4
  refine own_xaloadN X22 hx hby d8_38 rfl rfl ?_
  obtain ⟨cq37, kq37, qv37a, qv37b, qv37c⟩ := isOf hZ e22 f32
  obtain ⟨_, T37, L37, Lc37, X37, hQ37, Nf37, st37⟩ := own_back (cells := 0) (slots := 0) (rc := 0) (rs := 0) N22 (X22.virtualBack hx (y := own_mt12) (z := own_mt12) hown (mvT hZ (own_w hw 98 rfl)) (mvT hZ (own_w hw 99 rfl)) (notFace_of_selects (args := #[]) (mvT hZ (own_w hw 101 rfl))) (mvT hZ (own_w hw 101 rfl)) (mvT hZ (own_w hw 100 rfl)) (by decide) (backOf (W := 0) (rm12 l Z a0 hw [] a2 (xa) (xk) (ws) (kp) ((2 : Int32)) ((3 : Int32)) ((1 : Int32)) h22 n0 Z22 g_a2 ne_a2_xa f32 f33 f34 f35 f36 f27 (by decide) ⟨by decide, by decide⟩ (by decide) (own_hv (i := 2) (by decide) y2 (by decide)) (Or.inr rfl)) hZ (own_w hw 102 rfl) (own_w hw 41 rfl) (by decide) (by decide)) qv37a qv37c (g := (mkF m 39 #[own_R a1, own_R a2, own_N, own_I 0] [(.ref a2)])) rfl (by rw [hml]; rfl) (Steps.refl _) (argsL := []) (rest := []) (lenOf pd_8_7 rfl) rfl (by show 2 * 0 + _ ≤ _; exact Nat.le_of_eq rfl) (hb hby d8_39) (fun _ _ => ⟨rfl, e22, (by decide : 0 + 0 ≤ _), (by decide : 0 + 0 ≤ _)⟩))
  obtain ⟨rfl, N37q, Kq37, p37_0, p37_1, p37_2, p37_3, p37_4⟩ := hQ37
  have N37 := Nf37 N37q
  have f38 := f23.keep Kq37
  have f39 := f24.keep Kq37 (ninS ne_a1_a2 nin0)
  have f40 := f25.keep Kq37 (ninS ne_a1_a2 nin0)
  have f41 := f26.keep Kq37 (ninS ne_a1_a2 nin0)
  have f42 := f27.keep Kq37 (ninS (Ne.symm ne_a2_xa) nin0)
  have f43 := f28.keep Kq37 (allS (P := fun x => n0 ≤ x) g_a2 all0)
  have f44 := f29.keep Kq37
  have f45 := f30.keep Kq37 (ninS (Ne.symm ne_a2_fo) nin0)
  have f46 := f31.keep Kq37 (ninS (Ne.symm ne_a2_fo) nin0)
  have Z37 := Nat.le_trans Z22 Kq37.1
  have K37 := K22.trans Kq37 (allS (P := fun x => x ∈ [a1, a2, kp] ∨ h0.size ≤ x) (Or.inl (List.mem_of_getElem? (i := 1) rfl)) all0)
  refine own_tr st37 ?_
  try clear X22 e22 st37 N22 N37q f23 f24 f25 f26 f27 f28 f29 f30 f31
  refine own_xifNo X37 hx hby d8_42 ((if0 _ _).trans (feq (by decide : ¬ ((1 : Int32) = (0 : Int32)))).1) ?_
  refine own_xaloadN X37 hx hby d8_45 rfl rfl ?_
  obtain ⟨T47, X47, e47, st47⟩ := getF X37 hx hZ hown (host := "") (Or.inl (own_w hw 31 rfl)) Via.refl rfl f40 (g := (mkF m 46 #[own_R a1, own_R a2, own_N, own_I 0] [(.ref a1)])) rfl rfl (hb hby d8_46)
  refine own_st st47 ?_
  try clear X37 st47
  refine own_st (fun _ => XS.ifnonnullYes X47.here hx rfl (pc0 := 49) (pc' := 62) rfl (hb hby d8_49) rfl (by decide) (by decide)) ?_
  refine own_xaloadN X47 hx hby d8_62 rfl rfl ?_
  refine own_xaloadN X47 hx hby d8_63 rfl rfl ?_
  obtain ⟨T48, X48, e48, st48⟩ := getF X47 hx hZ hown (host := "") (Or.inl (own_w hw 31 rfl)) Via.refl e47 f40 (g := (mkF m 64 #[own_R a1, own_R a2, own_N, own_I 0] [(.ref a1), (.ref a1)])) rfl rfl (hb hby d8_64)
  refine own_st st48 ?_
  try clear X47 e47 st48
  obtain ⟨cq49, kq49, qv49a, qv49b, qv49c⟩ := isOf hZ e48 f44
  obtain ⟨_, T49, L49, Lc49, X49, hQ49, Nf49, st49⟩ := own_back (cells := 0) (slots := 0) (rc := 1) (rs := 7) N37 (X48.virtualBack hx (y := own_mt38) (z := own_mt38) hown (mvT hZ (own_w hw 307 rfl)) (mvT hZ (own_w hw 308 rfl)) (notFace_of_selects (args := #[]) (mvT hZ (own_w hw 310 rfl))) (mvT hZ (own_w hw 310 rfl)) (mvT hZ (own_w hw 309 rfl)) (by decide) (backOf (W := 1) (rm38 l Z a0 hw [] fo xx T37.heap n0 Z37 f44 f45 f46 f43 (by assumption)) hZ (own_w hw 311 rfl) (own_w hw 143 rfl) (by decide) (by decide)) qv49a qv49c (g := (mkF m 67 #[own_R a1, own_R a2, own_N, own_I 0] [(.ref fo), (.ref a1)])) rfl (by rw [hml]; rfl) (Steps.refl _) (argsL := []) (rest := [(.ref a1)]) (lenOf pd_8_11 rfl) rfl (by show 2 * 0 + _ ≤ _; exact Nat.le_of_eq rfl) (hb hby d8_67) (fun _ _ => ⟨rfl, e48, (by decide : 0 + 1 ≤ _), (by decide : 0 + 7 ≤ _)⟩))
  obtain ⟨r49, rfl, hr49, fr49, N49q, Kq49, p49_0⟩ := hQ49
  have N49 := Nf49 N49q
  have ne_a1_r49 : a1 ≠ r49 := Nat.ne_of_lt (Nat.lt_of_lt_of_le f38.lt fr49)
  have ne_a2_r49 : a2 ≠ r49 := Nat.ne_of_lt (Nat.lt_of_lt_of_le p37_0.lt fr49)
  have ne_fo_r49 : fo ≠ r49 := Nat.ne_of_lt (Nat.lt_of_lt_of_le f44.lt fr49)
  have ne_xa_r49 : xa ≠ r49 := Nat.ne_of_lt (Nat.lt_of_lt_of_le f42.lt fr49)
  have g_r49 : n0 ≤ r49 := Nat.le_trans Z37 fr49
  have sz_r49 : h0.size ≤ r49 := Nat.le_trans K37.1 fr49
  have f50 := f38.keep Kq49
  have f51 := f39.keep Kq49 nin0
  have f52 := f40.keep Kq49 nin0
  have f53 := f41.keep Kq49 nin0
  have f54 := f42.keep Kq49 nin0
  have f55 := f43.keep Kq49 all0
  have f56 := f44.keep Kq49
  have f57 := f45.keep Kq49 nin0
  have f58 := f46.keep Kq49 nin0
  have f59 := p37_0.keep Kq49
  have f60 := p37_1.keep Kq49 nin0
  have f61 := p37_2.keep Kq49 nin0
  have f62 := p37_3.keep Kq49 nin0
  have f63 := p37_4.keep Kq49 nin0
  have Z49 := Nat.le_trans Z37 Kq49.1
  have K49 := K37.trans Kq49 all0
  refine own_tr st49 ?_
  try clear X48 e48 st49 N37 N49q f38 f39 f40 f41 f42 f43 f44 f45 f46 p37_0 p37_1 p37_2 p37_3 p37_4
  obtain ⟨T64, h64, X64, e64, W64, st64⟩ := putF X49 hx hZ hown (host := "") (Or.inl (own_w hw 305 rfl)) Via.refl rfl f51 f50 (Or.inl (own_w hw 306 rfl)) (own_w hw 3 rfl) (ty := (.object own_cB)) (by decide) rfl rfl (g := (mkF m 70 #[own_R a1, own_R a2, own_N, own_I 0] [(.ref r49), (.ref a1)])) rfl rfl (hb hby d8_70)
  have fw64 : Fld Z h64 a1 own_cL "carried" own_dB (.ref r49) := f51.same W64
  have f65 := f50.wr W64
  have f66 := f52.other W64 (Or.inr (slot_ne (Or.inr (own_w hw 32 rfl)) (Or.inl (own_w hw 306 rfl)) (by decide) (t := (.object own_cF)) (t' := (.object own_cB)) (by decide) (by decide)))
  have f67 := f53.other W64 (Or.inr (slot_ne (Or.inl (own_w hw 22 rfl)) (Or.inl (own_w hw 306 rfl)) (by decide) (t := .long) (t' := (.object own_cB)) (by decide) (by decide)))
  have f68 := f54.other W64 (Ne.symm ne_a1_xa)
  have f69 := f55.wr W64 g_a1
  have f70 := f56.wr W64
  have f71 := f57.other W64 (Or.inl (Ne.symm ne_a1_fo))
  have f72 := f58.other W64 (Or.inl (Ne.symm ne_a1_fo))
  have f73 := f59.wr W64
  have f74 := f60.other W64 (Or.inl (Ne.symm ne_a1_a2))
  have f75 := f61.other W64 (Or.inl (Ne.symm ne_a1_a2))
  have f76 := f62.other W64 (Or.inl (Ne.symm ne_a1_a2))
  have f77 := f63.other W64 (Or.inl (Ne.symm ne_a1_a2))
  have f78 := p49_0.wr W64
  have N64 := Fr.snoc X64 N49 g_a1
  have Z64 := Nat.le_trans Z49 (Keep.of_wr W64).1
  have K64 := K49.wr W64 (Or.inl (List.mem_of_getElem? (i := 0) rfl))
  refine own_st st64 ?_
  try clear X49 st64 f50 f52 f53 f54 f55 f56 f57 f58 f59 f60 f61 f62 f63 p49_0
  refine own_xaloadN X64 hx hby d8_73 rfl rfl ?_
  obtain ⟨T79, X79, e79, st79⟩ := getF X64 hx hZ hown (host := "") (Or.inl (own_w hw 305 rfl)) Via.refl e64 fw64 (g := (mkF m 74 #[own_R a1, own_R a2, own_N, own_I 0] [(.ref a1)])) rfl rfl (hb hby d8_74)
  refine own_st st79 ?_
  try clear X64 e64 st79
  refine own_xaloadN X79 hx hby d8_77 rfl rfl ?_
  obtain ⟨cq80, kq80, qv80a, qv80b, qv80c⟩ := isOf hZ e79 f78
  obtain ⟨_, T80, L80, Lc80, X80, hQ80, Nf80, st80⟩ := own_back (cells := 1) (slots := 7) (rc := 0) (rs := 0) N64 (X79.virtualBack hx (y := own_mt41) (z := own_mt41) hown (mvT hZ (own_w hw 336 rfl)) (mvT hZ (own_w hw 337 rfl)) (notFace_of_selects (args := #[]) (mvT hZ (own_w hw 339 rfl))) (mvT hZ (own_w hw 339 rfl)) (mvT hZ (own_w hw 338 rfl)) (by decide) (backOf (W := 0) (rm41 l Z a0 hw [] r49 a2 (xa) (xk) (ws) (kp) ((3 : Int32)) ((4 : Int32)) h64 n0 Z64 g_a2 ne_a2_xa f73 f74 f75 f76 f77 f68 (by decide) ⟨by decide, by decide⟩ (by decide) (own_hv (i := 3) (by decide) y3 (by decide))) hZ (own_w hw 340 rfl) (own_w hw 314 rfl) (by decide) (by decide)) qv80a qv80c (g := (mkF m 78 #[own_R a1, own_R a2, own_N, own_I 0] [(.ref a2), (.ref r49)])) rfl (by rw [hml]; rfl) (Steps.refl _) (argsL := [(.ref a2)]) (rest := []) (lenOf pd_8_29 rfl) rfl (by show 2 * 0 + _ ≤ _; exact Nat.le_of_eq rfl) (hb hby d8_78) (fun _ _ => ⟨rfl, e79, (by decide : 1 + 0 ≤ _), (by decide : 7 + 0 ≤ _)⟩))
  obtain ⟨rfl, N80q, Kq80, p80_0, p80_1, p80_2, p80_3, p80_4⟩ := hQ80
  have N80 := Nf80 N80q
  have f81 := f65.keep Kq80
  have f82 := fw64.keep Kq80 (ninS ne_a1_a2 nin0)
  have f83 := f67.keep Kq80 (ninS ne_a1_a2 nin0)
  have f84 := f68.keep Kq80 (ninS (Ne.symm ne_a2_xa) nin0)
  have f85 := f69.keep Kq80 (allS (P := fun x => n0 ≤ x) g_a2 all0)
  have f86 := f78.keep Kq80
  have Z80 := Nat.le_trans Z64 Kq80.1
  have K80 := K64.trans Kq80 (allS (P := fun x => x ∈ [a1, a2, kp] ∨ h0.size ≤ x) (Or.inl (List.mem_of_getElem? (i := 1) rfl)) all0)
  refine own_tr st80 ?_
  try clear X79 e79 st80 N64 N80q f65 fw64 f67 f68 f69 f78
  refine own_xaloadN X80 hx hby d8_81 rfl rfl ?_
  refine own_xaloadN X80 hx hby d8_82 rfl rfl ?_
  obtain ⟨cq87, kq87, qv87a, qv87b, qv87c⟩ := isOf hZ rfl p80_0
  obtain ⟨_, T87, L87, Lc87, X87, hQ87, Nf87, st87⟩ := own_back (cells := 1) (slots := 7) (rc := 0) (rs := 0) N80 (X80.virtualBack hx (y := own_mt13) (z := own_mt13) hown (mvT hZ (own_w hw 103 rfl)) (mvT hZ (own_w hw 104 rfl)) (notFace_of_selects (args := #[]) (mvT hZ (own_w hw 106 rfl))) (mvT hZ (own_w hw 106 rfl)) (mvT hZ (own_w hw 105 rfl)) (by decide) (backOf (W := 1) (rm13 l Z a0 hw [] a2 xx (xa) (xk) (ws) (kp) ((4 : Int32)) ((5 : Int32)) T80.heap n0 Z80 g_a2 ne_a2_xa p80_0 p80_1 p80_2 p80_3 p80_4 f84 (by assumption) (by decide) ⟨by decide, by decide⟩ (by decide) (own_hv (i := 4) (by decide) y4 (by decide))) hZ (own_w hw 107 rfl) (own_w hw 41 rfl) (by decide) (by decide)) qv87a qv87c (g := (mkF m 83 #[own_R a1, own_R a2, own_N, own_I 0] [(.ref a2), (.ref a1)])) rfl (by rw [hml]; rfl) (Steps.refl _) (argsL := []) (rest := [(.ref a1)]) (lenOf pd_8_8 rfl) rfl (by show 2 * 0 + _ ≤ _; exact Nat.le_of_eq rfl) (hb hby d8_83) (fun _ _ => ⟨rfl, rfl, (by decide : 1 + 0 ≤ _), (by decide : 7 + 0 ≤ _)⟩))
  obtain ⟨rfl, N87q, Kq87, p87_0, p87_1, p87_2, p87_3, p87_4⟩ := hQ87
  have N87 := Nf87 N87q
  have f88 := f81.keep Kq87
  have f89 := f82.keep Kq87 (ninS ne_a1_a2 nin0)
  have f90 := f83.keep Kq87 (ninS ne_a1_a2 nin0)
  have f91 := f84.keep Kq87 (ninS (Ne.symm ne_a2_xa) nin0)
  have f92 := f85.keep Kq87 (allS (P := fun x => n0 ≤ x) g_a2 all0)
  have f93 := f86.keep Kq87
  have Z87 := Nat.le_trans Z80 Kq87.1
  have K87 := K80.trans Kq87 (allS (P := fun x => x ∈ [a1, a2, kp] ∨ h0.size ≤ x) (Or.inl (List.mem_of_getElem? (i := 1) rfl)) all0)
  refine own_tr st87 ?_
  try clear X80 st87 N80 N87q f81 f82 f83 f84 f85 f86
  obtain ⟨_, T94, L94, Lc94, X94, hQ94, Nf94, st94⟩ := own_backS (cells := 1) (slots := 7) (rc := 0) (rs := 0) N87 (Jvm.LawKit.callS X87 hx (y := own_mt15) hown (mvT hZ (own_w hw 119 rfl)) (mvT hZ (own_w hw 120 rfl)) (mvT hZ (own_w hw 4 rfl)) (mvT hZ (own_w hw 121 rfl)) (by decide) (backOf (W := 1) (rm15 l Z a0 hw []  T87.heap n0 Z87) hZ (own_w hw 121 rfl) (own_w hw 4 rfl) (by decide) (by decide)) (g := (mkF m 86 #[own_R a1, own_R a2, own_N, own_I 0] [.null, (.ref a1)])) rfl (by rw [hml]; rfl) (argsL := [.null]) (rest := [(.ref a1)]) (lenOf pd_8_10 rfl) rfl (by show 2 * 0 + _ ≤ _; exact Nat.le_of_eq rfl) (hb hby d8_86) (fun _ _ => ⟨rfl, rfl, (by decide : 1 + 0 ≤ _), (by decide : 7 + 0 ≤ _)⟩))
  obtain ⟨rfl, N94q, e94⟩ := hQ94
  have N94 := Nf94 N94q
  refine own_tr st94 ?_
  try clear X87 st94 N87 N94q
  obtain ⟨T95, h95, X95, e95, W95, st95⟩ := putF X94 hx hZ hown (host := "") (Or.inl (own_w hw 21 rfl)) Via.refl e94 f90 f88 (Or.inl (own_w hw 22 rfl)) (own_w hw 3 rfl) (ty := .long) (by decide) rfl rfl (g := (mkF m 89 #[own_R a1, own_R a2, own_N, own_I 0] [(.long (-9223372036854775808)), (.ref a1)])) rfl rfl (hb hby d8_89)
  have fw95 : Fld Z h95 a1 own_cL "lastFoldedDay" "J" (.long (-9223372036854775808)) := f90.same W95
  have f96 := f88.wr W95
  have f97 := f89.other W95 (Or.inr (slot_ne (Or.inl (own_w hw 306 rfl)) (Or.inl (own_w hw 22 rfl)) (by decide) (t := (.object own_cB)) (t' := .long) (by decide) (by decide)))
  have f98 := f91.other W95 (Ne.symm ne_a1_xa)
  have f99 := f92.wr W95 g_a1
  have f100 := f93.wr W95
  have f101 := p87_0.wr W95
  have f102 := p87_1.other W95 (Or.inl (Ne.symm ne_a1_a2))
  have f103 := p87_2.other W95 (Or.inl (Ne.symm ne_a1_a2))
  have f104 := p87_3.other W95 (Or.inl (Ne.symm ne_a1_a2))
  have f105 := p87_4.other W95 (Or.inl (Ne.symm ne_a1_a2))
  have N95 := Fr.snoc X95 N94 g_a1
  have Z95 := Nat.le_trans Z87 (Keep.of_wr W95).1
  have K95 := K87.wr W95 (Or.inl (List.mem_of_getElem? (i := 0) rfl))
  refine own_st st95 ?_
  try clear X94 e94 st95 f88 f89 f91 f92 f93 p87_0 p87_1 p87_2 p87_3 p87_4
  refine own_tail8 hw Bd.admits hZ hx hby hml hown hnm (ldv := (-9223372036854775808 : Int64)) (cv := (.ref r49)) (q0 := 5) (q1 := 6) (q2 := 7) (q3 := 8) (q4 := 9) (q5 := 10) (q6 := 11) (q7 := 12) (q8 := 13) (q9 := 14) (q10 := 15) (q11 := 16) HP g_a1 g_a2 g_kp ne_a1_a2 ne_a1_xa ne_a2_xa (X95.more (by decide) (by decide)) e95 N95 Z95 K95 f96 fw95 f97 f101 f102 f103 f104 f105 f98 f99 (by decide) (by decide) (by decide) (by decide) (by decide) (by decide) (by decide) (by decide) (by decide) (by decide) (by decide) (own_hv (i := 5) (by decide) y5 hl1) (own_hv (i := 6) (by decide) y6 (by decide)) (own_hv (i := 7) (by decide) y7 (by decide)) (own_hv (i := 8) (by decide) y8 (by decide)) (own_hv (i := 9) (by decide) y9 (by decide)) (own_hv (i := 10) (by decide) y10 (by decide)) (own_hv (i := 11) (by decide) y11 (by decide)) (own_hv (i := 12) (by decide) y12 (by decide)) (own_hv (i := 13) (by decide) y13 (by decide)) (own_hv (i := 14) (by decide) y14 (own_n01 h1s)) (own_hv (i := 15) (by decide) y15 (own_n01 h1h)) hl0 h1s h1h ?_
  intro T106 L106 h106 X106 e106 N106 Z106 K106 F106_0 F106_1 F106_2
  obtain ⟨fs, hr, hrun, hended, hW, hsame⟩ := X106.leave (v := none) (fun _ => rfl)
  refine ⟨_, X106.returnOut hx Bd.returns (hb hby d8_237) hr, fin _ _ _ hrun hended ?_ ⟨⟨_, rfl⟩, hW, hsame.mono (by decide) (by decide)⟩⟩
  show Q8k Z a1 a2 xx xa xk ws kp fi lb zs zh fo h0 n0 _ T106.heap _
  rw [e106]
  exact ⟨r49, rfl, N106, K106, F106_0, F106_1, F106_2⟩
theorem ef_8kd (m : MethodId) (x0 : Addr) (x1 : Addr) : entryFrame m #[(.ref x0), (.ref x1), .null] 4 = mkF m 0 #[own_R x0, own_R x1, own_N, .unset] [] := by first | (simp [entryFrame, mkF, argsToLocals, Value.category]; done) | rfl
def Q8kd (Z : State) (a1 : Addr) (a2 : Addr) (xx : Nat → Nat) (xa : Addr) (xk : ClassId) (ws : List Int32) (kp : Addr) (fi : Int32) (lb : Int32) (zs : Int32) (zh : Int32) (vb0 : Int32) (vb1 : Int32) (vb2 : Int32) (fo : Addr) (h0 : Heap) (n0 : Nat) (v : Option Value) (h : Heap) (L : List Loc) : Prop := ∃ (ld : Int64) (cr : Addr), v = none ∧ Fr n0 L ∧ Keep h0 h [a1, a2, kp] ∧ (Exa Z h a1 own_cL) ∧ (Fld Z h a1 own_cL "lastFoldedDay" "J" (.long ld)) ∧ (Fld Z h a1 own_cL "carried" own_dB (.ref cr)) ∧ (¬ ld = (-9223372036854775808 : Int64))
theorem rm8kd (l : Launch) (Z : State) (a0 : Array Value) (hw : ∀ d ∈ tables_1, d.before a0 Z = true) (ws_ : List Jvm.Cond) (a1 : Addr) (a2 : Addr) (xx : Nat → Nat) (xa : Addr) (xk : ClassId) (ws : List Int32) (kp : Addr) (fi : Int32) (lb : Int32) (zs : Int32) (zh : Int32) (vb0 : Int32) (vb1 : Int32) (vb2 : Int32) (fo : Addr) (h0 : Heap) (n0 : Nat) (Z0 : n0 ≤ h0.size) (g_a1 : n0 ≤ a1) (g_a2 : n0 ≤ a2) (g_kp : n0 ≤ kp) (ne_a1_a2 : a1 ≠ a2) (ne_a1_xa : a1 ≠ xa) (ne_a2_xa : a2 ≠ xa) (ne_a1_kp : a1 ≠ kp) (ne_a2_kp : a2 ≠ kp) (ne_kp_xa : kp ≠ xa) (ne_a1_fo : a1 ≠ fo) (ne_a2_fo : a2 ≠ fo) (P0 : Exa Z h0 a1 own_cL) (P1 : Fld Z h0 a1 own_cL "carried" own_dB .null) (P2 : Fld Z h0 a1 own_cL "folding" own_dF (.ref fo)) (P3 : Fld Z h0 a1 own_cL "lastFoldedDay" "J" (.long (-9223372036854775808))) (P4 : Exa Z h0 a2 own_cR) (P5 : Fld Z h0 a2 own_cR "bytes" "[B" (.ref xa)) (P6 : Fld Z h0 a2 own_cR "position" "I" (.int 0)) (P7 : Fld Z h0 a2 own_cR "end" "I" (.int 24)) (P8 : Fld Z h0 a2 own_cR "kept" "Ljava/util/List;" (.ref kp)) (P9 : Arv Z h0 xa xk .byte (24 : Int32) (ws.map Value.int) (.int 0)) (P10 : Old Z n0 h0) (P11 : Exa Z h0 kp own_cA) (P12 : Fld Z h0 kp own_cA "elementData" "[Ljava/lang/Object;" (.ref (xx 0))) (P13 : Fld Z h0 kp "java/util/AbstractList" "modCount" "I" (.int 0)) (P14 : Fld Z h0 kp own_cA "size" "I" (.int 0)) (P15 : Exa Z h0 fo own_cF) (P16 : Fld Z h0 fo own_cF "funds" "Lcom/example/deferline/deferline/market/Funds;" .null) (P17 : Fld Z h0 fo own_cF "calendar" "Lcom/example/deferline/deferline/market/TradingCalendar;" .null) (HP : own_P Z xx) (y0 : ws.getD 0 0 = 0) (y1 : ws.getD 1 0 = fi) (y2 : ws.getD 2 0 = 1) (y3 : ws.getD 3 0 = 0) (y4 : ws.getD 4 0 = 2) (y5 : ws.getD 5 0 = vb0) (y6 : ws.getD 6 0 = vb1) (y7 : ws.getD 7 0 = vb2) (y8 : ws.getD 8 0 = lb) (y9 : ws.getD 9 0 = 0) (y10 : ws.getD 10 0 = 0) (y11 : ws.getD 11 0 = 0) (y12 : ws.getD 12 0 = 0) (y13 : ws.getD 13 0 = 0) (y14 : ws.getD 14 0 = 0) (y15 : ws.getD 15 0 = 0) (y16 : ws.getD 16 0 = 0) (y17 : ws.getD 17 0 = zs) (y18 : ws.getD 18 0 = zh) (h1i : fi = 0 ∨ fi = 1) (h1s : zs = 0 ∨ zs = 1) (h1h : zh = 0 ∨ zh = 1) (hl0 : ¬ lb < (0 : Int32)) (hl1 : nar .byte lb = lb) (hb0 : nar .byte vb0 = vb0) (hb1 : nar .byte vb1 = vb1) (hb2 : nar .byte vb2 = vb2) (hn0 : vb0 < (0 : Int32)) (hn1 : vb1 < (0 : Int32)) (hn2 : ¬ vb2 < (0 : Int32)) :
    own_Met l own_mt8 oB8 4 none ws_ ({ frames := 9, cells := 3, slots := 20, locals := 3087 } : Room) #[(.ref a1), (.ref a2), .null] Z h0 (Q8kd Z a1 a2 xx xa xk ws kp fi lb zs zh vb0 vb1 vb2 fo h0 n0) := by
  refine own_met n0 (plainFor_of_name pn_8) (fun m => ef_8kd m a1 a2) ?_
  intro p e s m below meth c s₁ Bd hZ hx hby hml hown' hnm X0 e0 N0 K fin
  have hown : s.vm.findClass own_cL = some m.cls := hown'
  show own_Go p e below K (s₁.setTop (mkF m 0 #[own_R a1, own_R a2, own_N, own_U] []))
  refine own_xaloadN X0 hx hby d8_0 rfl rfl ?_
  obtain ⟨cq1, kq1, qv1a, qv1b, qv1c⟩ := isOf hZ e0 P4
  obtain ⟨_, T1, L1, Lc1, X1, hQ1, Nf1, st1⟩ := own_back (cells := 0) (slots := 0) (rc := 0) (rs := 0) N0 (X0.virtualBack hx (y := own_mt9) (z := own_mt9) hown (mvT hZ (own_w hw 83 rfl)) (mvT hZ (own_w hw 84 rfl)) (notFace_of_selects (args := #[]) (mvT hZ (own_w hw 86 rfl))) (mvT hZ (own_w hw 86 rfl)) (mvT hZ (own_w hw 85 rfl)) (by decide) (backOf (W := 0) (rm9 l Z a0 hw [] a2 (xa) (xk) (ws) (kp) ((0 : Int32)) ((1 : Int32)) ((0 : Int32)) ((0 : Int64)) ((0 : Int32)) h0 n0 Z0 g_a2 ne_a2_xa P4 P5 P6 P7 P8 P9 (by decide) ⟨by decide, by decide⟩ (by decide) (own_hv (i := 0) (by decide) y0 (by decide)) (by decide) (by decide) (by decide) (by decide)) hZ (own_w hw 87 rfl) (own_w hw 41 rfl) (by decide) (by decide)) qv1a qv1c (g := (mkF m 1 #[own_R a1, own_R a2, own_N, own_U] [(.ref a2)])) rfl (by rw [hml]; rfl) (Steps.refl _) (argsL := []) (rest := []) (lenOf pd_8_4 rfl) rfl (by show 2 * 0 + _ ≤ _; exact Nat.le_of_eq rfl) (hb hby d8_1) (fun _ _ => ⟨rfl, e0, (by decide : 0 + 0 ≤ _), (by decide : 0 + 0 ≤ _)⟩))
  obtain ⟨rfl, N1q, Kq1, p1_0, p1_1, p1_2, p1_3, p1_4⟩ := hQ1
  have N1 := Nf1 N1q
  have f2 := P0.keep Kq1
  have f3 := P1.keep Kq1 (ninS ne_a1_a2 nin0)
  have f4 := P2.keep Kq1 (ninS ne_a1_a2 nin0)
  have f5 := P3.keep Kq1 (ninS ne_a1_a2 nin0)
  have f6 := P9.keep Kq1 (ninS (Ne.symm ne_a2_xa) nin0)
  have f7 := P10.keep Kq1 (allS (P := fun x => n0 ≤ x) g_a2 all0)
  have f8 := P11.keep Kq1
  have f9 := P12.keep Kq1 (ninS (Ne.symm ne_a2_kp) nin0)
  have f10 := P13.keep Kq1 (ninS (Ne.symm ne_a2_kp) nin0)
  have f11 := P14.keep Kq1 (ninS (Ne.symm ne_a2_kp) nin0)
  have f12 := P15.keep Kq1
  have f13 := P16.keep Kq1 (ninS (Ne.symm ne_a2_fo) nin0)
  have f14 := P17.keep Kq1 (ninS (Ne.symm ne_a2_fo) nin0)
  have Z1 := Nat.le_trans Z0 Kq1.1
  have K1 : Keep h0 T1.heap [a1, a2, kp] := (Keep.refl h0 [a1, a2, kp]).trans Kq1 (allS (P := fun x => x ∈ [a1, a2, kp] ∨ h0.size ≤ x) (Or.inl (List.mem_of_getElem? (i := 1) rfl)) all0)
  refine own_tr st1 ?_
  try clear st1 N1q P0 P1 P2 P3 P9 P10 P11 P12 P13 P14 P15 P16 P17
  refine own_xistoreN X1 hx hby d8_4 (l' := #[own_R a1, own_R a2, own_N, own_I 0]) rfl ?_
  refine own_xiloadN X1 hx hby d8_5 rfl ?_
  refine own_xifYes X1 hx hby d8_6 (pc0 := 6) (pc' := 30) ((if0 _ _).trans (flt (by decide : ¬ ((0 : Int32) < (0 : Int32)))).2.2.2) rfl (by decide) (by decide) ?_
  refine own_xaloadN X1 hx hby d8_30 rfl rfl ?_
  refine own_xaloadN X1 hx hby d8_31 rfl rfl ?_
  obtain ⟨cq15, kq15, qv15a, qv15b, qv15c⟩ := isOf hZ rfl p1_0
  obtain ⟨_, T15, L15, Lc15, X15, hQ15, Nf15, st15⟩ := own_back (cells := 0) (slots := 0) (rc := 0) (rs := 0) N1 (X1.virtualBack hx (y := own_mt12) (z := own_mt12) hown (mvT hZ (own_w hw 98 rfl)) (mvT hZ (own_w hw 99 rfl)) (notFace_of_selects (args := #[]) (mvT hZ (own_w hw 101 rfl))) (mvT hZ (own_w hw 101 rfl)) (mvT hZ (own_w hw 100 rfl)) (by decide) (backOf (W := 1) (rm12 l Z a0 hw [] a2 (xa) (xk) (ws) (kp) ((1 : Int32)) ((2 : Int32)) (fi) T1.heap n0 Z1 g_a2 ne_a2_xa p1_0 p1_1 p1_2 p1_3 p1_4 f6 (by decide) ⟨by decide, by decide⟩ (by decide) (own_hv (i := 1) (by decide) y1 (own_n01 h1i)) h1i) hZ (own_w hw 102 rfl) (own_w hw 41 rfl) (by decide) (by decide)) qv15a qv15c (g := (mkF m 32 #[own_R a1, own_R a2, own_N, own_I 0] [(.ref a2), (.ref a1)])) rfl (by rw [hml]; rfl) (Steps.refl _) (argsL := []) (rest := [(.ref a1)]) (lenOf pd_8_7 rfl) rfl (by show 2 * 0 + _ ≤ _; exact Nat.le_of_eq rfl) (hb hby d8_32) (fun _ _ => ⟨rfl, rfl, (by decide : 0 + 0 ≤ _), (by decide : 0 + 0 ≤ _)⟩))
  obtain ⟨rfl, N15q, Kq15, p15_0, p15_1, p15_2, p15_3, p15_4⟩ := hQ15
  have N15 := Nf15 N15q
  have f16 := f2.keep Kq15
  have f17 := f3.keep Kq15 (ninS ne_a1_a2 nin0)
  have f18 := f4.keep Kq15 (ninS ne_a1_a2 nin0)
  have f19 := f5.keep Kq15 (ninS ne_a1_a2 nin0)
  have f20 := f6.keep Kq15 (ninS (Ne.symm ne_a2_xa) nin0)
  have f21 := f7.keep Kq15 (allS (P := fun x => n0 ≤ x) g_a2 all0)
  have f22 := f8.keep Kq15
  have f23 := f9.keep Kq15 (ninS (Ne.symm ne_a2_kp) nin0)
  have f24 := f10.keep Kq15 (ninS (Ne.symm ne_a2_kp) nin0)
  have f25 := f11.keep Kq15 (ninS (Ne.symm ne_a2_kp) nin0)
  have f26 := f12.keep Kq15
  have f27 := f13.keep Kq15 (ninS (Ne.symm ne_a2_fo) nin0)
  have f28 := f14.keep Kq15 (ninS (Ne.symm ne_a2_fo) nin0)
  have Z15 := Nat.le_trans Z1 Kq15.1
  have K15 := K1.trans Kq15 (allS (P := fun x => x ∈ [a1, a2, kp] ∨ h0.size ≤ x) (Or.inl (List.mem_of_getElem? (i := 1) rfl)) all0)
  refine own_tr st15 ?_
  try clear X1 st15 N1 N15q f2 f3 f4 f5 f6 f7 f8 f9 f10 f11 f12 f13 f14
  obtain ⟨w29, fo29⟩ := own_some (O := own_cL) (n := "inOrder") (d := "Z") (own_w hw 3 rfl) f16 f19 (Or.inl (own_w hw 19 rfl))
  obtain ⟨T30, h30, X30, e30, W30, st30⟩ := putFN X15 hx hZ hown (own_w hw 18 rfl) Via.refl rfl fo29 f16 (Or.inl (own_w hw 19 rfl)) (own_w hw 3 rfl) (ty := .boolean) (v' := .int (fi &&& 1)) (by decide) rfl (fits_nar_bool _) (g := (mkF m 35 #[own_R a1, own_R a2, own_N, own_I 0] [(.int fi), (.ref a1)])) rfl rfl (hb hby d8_35)
  have f31 := f16.wr W30
  have f32 := f17.other W30 (Or.inr (slot_ne (Or.inl (own_w hw 306 rfl)) (Or.inl (own_w hw 19 rfl)) (by decide) (t := (.object own_cB)) (t' := .boolean) (by decide) (by decide)))
  have f33 := f18.other W30 (Or.inr (slot_ne (Or.inr (own_w hw 32 rfl)) (Or.inl (own_w hw 19 rfl)) (by decide) (t := (.object own_cF)) (t' := .boolean) (by decide) (by decide)))
  have f34 := f19.other W30 (Or.inr (slot_ne (Or.inl (own_w hw 22 rfl)) (Or.inl (own_w hw 19 rfl)) (by decide) (t := .long) (t' := .boolean) (by decide) (by decide)))
  have f35 := f20.other W30 (Ne.symm ne_a1_xa)
  have f36 := f21.wr W30 g_a1
  have f37 := f22.wr W30
  have f38 := f23.other W30 (Or.inl (Ne.symm ne_a1_kp))
  have f39 := f24.other W30 (Or.inl (Ne.symm ne_a1_kp))
  have f40 := f25.other W30 (Or.inl (Ne.symm ne_a1_kp))
  have f41 := f26.wr W30
  have f42 := f27.other W30 (Or.inl (Ne.symm ne_a1_fo))
  have f43 := f28.other W30 (Or.inl (Ne.symm ne_a1_fo))
  have f44 := p15_0.wr W30
  have f45 := p15_1.other W30 (Or.inl (Ne.symm ne_a1_a2))
  have f46 := p15_2.other W30 (Or.inl (Ne.symm ne_a1_a2))
  have f47 := p15_3.other W30 (Or.inl (Ne.symm ne_a1_a2))
  have f48 := p15_4.other W30 (Or.inl (Ne.symm ne_a1_a2))
  have N30 := Fr.snoc X30 N15 g_a1
  have Z30 := Nat.le_trans Z15 (Keep.of_wr W30).1
  have K30 := K15.wr W30 (Or.inl (List.mem_of_getElem? (i := 0) rfl))
  refine own_st st30 ?_
  try clear fo29 X15 st30 f16 f17 f18 f19 f20 f21 f22 f23 f24 f25 f26 f27 f28 p15_0 p15_1 p15_2 p15_3 p15_4
  refine own_xaloadN X30 hx hby d8_38 rfl rfl ?_
  obtain ⟨cq49, kq49, qv49a, qv49b, qv49c⟩ := isOf hZ e30 f44
  obtain ⟨_, T49, L49, Lc49, X49, hQ49, Nf49, st49⟩ := own_back (cells := 0) (slots := 0) (rc := 0) (rs := 0) N30 (X30.virtualBack hx (y := own_mt12) (z := own_mt12) hown (mvT hZ (own_w hw 98 rfl)) (mvT hZ (own_w hw 99 rfl)) (notFace_of_selects (args := #[]) (mvT hZ (own_w hw 101 rfl))) (mvT hZ (own_w hw 101 rfl)) (mvT hZ (own_w hw 100 rfl)) (by decide) (backOf (W := 0) (rm12 l Z a0 hw [] a2 (xa) (xk) (ws) (kp) ((2 : Int32)) ((3 : Int32)) ((1 : Int32)) h30 n0 Z30 g_a2 ne_a2_xa f44 f45 f46 f47 f48 f35 (by decide) ⟨by decide, by decide⟩ (by decide) (own_hv (i := 2) (by decide) y2 (by decide)) (Or.inr rfl)) hZ (own_w hw 102 rfl) (own_w hw 41 rfl) (by decide) (by decide)) qv49a qv49c (g := (mkF m 39 #[own_R a1, own_R a2, own_N, own_I 0] [(.ref a2)])) rfl (by rw [hml]; rfl) (Steps.refl _) (argsL := []) (rest := []) (lenOf pd_8_7 rfl) rfl (by show 2 * 0 + _ ≤ _; exact Nat.le_of_eq rfl) (hb hby d8_39) (fun _ _ => ⟨rfl, e30, (by decide : 0 + 0 ≤ _), (by decide : 0 + 0 ≤ _)⟩))
  obtain ⟨rfl, N49q, Kq49, p49_0, p49_1, p49_2, p49_3, p49_4⟩ := hQ49
  have N49 := Nf49 N49q
  have f50 := f31.keep Kq49
  have f51 := f32.keep Kq49 (ninS ne_a1_a2 nin0)
  have f52 := f33.keep Kq49 (ninS ne_a1_a2 nin0)
  have f53 := f34.keep Kq49 (ninS ne_a1_a2 nin0)
  have f54 := f35.keep Kq49 (ninS (Ne.symm ne_a2_xa) nin0)
  have f55 := f36.keep Kq49 (allS (P := fun x => n0 ≤ x) g_a2 all0)
  have f56 := f37.keep Kq49
  have f57 := f38.keep Kq49 (ninS (Ne.symm ne_a2_kp) nin0)
  have f58 := f39.keep Kq49 (ninS (Ne.symm ne_a2_kp) nin0)
  have f59 := f40.keep Kq49 (ninS (Ne.symm ne_a2_kp) nin0)
  have f60 := f41.keep Kq49
  have f61 := f42.keep Kq49 (ninS (Ne.symm ne_a2_fo) nin0)
  have f62 := f43.keep Kq49 (ninS (Ne.symm ne_a2_fo) nin0)
  have Z49 := Nat.le_trans Z30 Kq49.1
  have K49 := K30.trans Kq49 (allS (P := fun x => x ∈ [a1, a2, kp] ∨ h0.size ≤ x) (Or.inl (List.mem_of_getElem? (i := 1) rfl)) all0)
  refine own_tr st49 ?_
  try clear X30 e30 st49 N30 N49q f31 f32 f33 f34 f35 f36 f37 f38 f39 f40 f41 f42 f43
  refine own_xifNo X49 hx hby d8_42 ((if0 _ _).trans (feq (by decide : ¬ ((1 : Int32) = (0 : Int32)))).1) ?_
  refine own_xaloadN X49 hx hby d8_45 rfl rfl ?_
  obtain ⟨T63, X63, e63, st63⟩ := getF X49 hx hZ hown (host := "") (Or.inl (own_w hw 31 rfl)) Via.refl rfl f52 (g := (mkF m 46 #[own_R a1, own_R a2, own_N, own_I 0] [(.ref a1)])) rfl rfl (hb hby d8_46)
  refine own_st st63 ?_
  try clear X49 st63
  refine own_st (fun _ => XS.ifnonnullYes X63.here hx rfl (pc0 := 49) (pc' := 62) rfl (hb hby d8_49) rfl (by decide) (by decide)) ?_
  refine own_xaloadN X63 hx hby d8_62 rfl rfl ?_
  refine own_xaloadN X63 hx hby d8_63 rfl rfl ?_
  obtain ⟨T64, X64, e64, st64⟩ := getF X63 hx hZ hown (host := "") (Or.inl (own_w hw 31 rfl)) Via.refl e63 f52 (g := (mkF m 64 #[own_R a1, own_R a2, own_N, own_I 0] [(.ref a1), (.ref a1)])) rfl rfl (hb hby d8_64)
  refine own_st st64 ?_
  try clear X63 e63 st64
  obtain ⟨cq65, kq65, qv65a, qv65b, qv65c⟩ := isOf hZ e64 f60
  obtain ⟨_, T65, L65, Lc65, X65, hQ65, Nf65, st65⟩ := own_back (cells := 0) (slots := 0) (rc := 1) (rs := 7) N49 (X64.virtualBack hx (y := own_mt38) (z := own_mt38) hown (mvT hZ (own_w hw 307 rfl)) (mvT hZ (own_w hw 308 rfl)) (notFace_of_selects (args := #[]) (mvT hZ (own_w hw 310 rfl))) (mvT hZ (own_w hw 310 rfl)) (mvT hZ (own_w hw 309 rfl)) (by decide) (backOf (W := 1) (rm38 l Z a0 hw [] fo xx T49.heap n0 Z49 f60 f61 f62 f55 (by assumption)) hZ (own_w hw 311 rfl) (own_w hw 143 rfl) (by decide) (by decide)) qv65a qv65c (g := (mkF m 67 #[own_R a1, own_R a2, own_N, own_I 0] [(.ref fo), (.ref a1)])) rfl (by rw [hml]; rfl) (Steps.refl _) (argsL := []) (rest := [(.ref a1)]) (lenOf pd_8_11 rfl) rfl (by show 2 * 0 + _ ≤ _; exact Nat.le_of_eq rfl) (hb hby d8_67) (fun _ _ => ⟨rfl, e64, (by decide : 0 + 1 ≤ _), (by decide : 0 + 7 ≤ _)⟩))
  obtain ⟨r65, rfl, hr65, fr65, N65q, Kq65, p65_0⟩ := hQ65
  have N65 := Nf65 N65q
  have ne_a1_r65 : a1 ≠ r65 := Nat.ne_of_lt (Nat.lt_of_lt_of_le f50.lt fr65)
  have ne_a2_r65 : a2 ≠ r65 := Nat.ne_of_lt (Nat.lt_of_lt_of_le p49_0.lt fr65)
  have ne_fo_r65 : fo ≠ r65 := Nat.ne_of_lt (Nat.lt_of_lt_of_le f60.lt fr65)
  have ne_kp_r65 : kp ≠ r65 := Nat.ne_of_lt (Nat.lt_of_lt_of_le f56.lt fr65)
  have ne_xa_r65 : xa ≠ r65 := Nat.ne_of_lt (Nat.lt_of_lt_of_le f54.lt fr65)
  have g_r65 : n0 ≤ r65 := Nat.le_trans Z49 fr65
  have sz_r65 : h0.size ≤ r65 := Nat.le_trans K49.1 fr65
  have f66 := f50.keep Kq65
  have f67 := f51.keep Kq65 nin0
  have f68 := f52.keep Kq65 nin0
  have f69 := f53.keep Kq65 nin0
  have f70 := f54.keep Kq65 nin0
  have f71 := f55.keep Kq65 all0
  have f72 := f56.keep Kq65
  have f73 := f57.keep Kq65 nin0
  have f74 := f58.keep Kq65 nin0
  have f75 := f59.keep Kq65 nin0
  have f76 := f60.keep Kq65
  have f77 := f61.keep Kq65 nin0
  have f78 := f62.keep Kq65 nin0
  have f79 := p49_0.keep Kq65
  have f80 := p49_1.keep Kq65 nin0
  have f81 := p49_2.keep Kq65 nin0
  have f82 := p49_3.keep Kq65 nin0
  have f83 := p49_4.keep Kq65 nin0
  have Z65 := Nat.le_trans Z49 Kq65.1
  have K65 := K49.trans Kq65 all0
  refine own_tr st65 ?_
  try clear X64 e64 st65 N49 N65q f50 f51 f52 f53 f54 f55 f56 f57 f58 f59 f60 f61 f62 p49_0 p49_1 p49_2 p49_3 p49_4
  obtain ⟨T84, h84, X84, e84, W84, st84⟩ := putF X65 hx hZ hown (host := "") (Or.inl (own_w hw 305 rfl)) Via.refl rfl f67 f66 (Or.inl (own_w hw 306 rfl)) (own_w hw 3 rfl) (ty := (.object own_cB)) (by decide) rfl rfl (g := (mkF m 70 #[own_R a1, own_R a2, own_N, own_I 0] [(.ref r65), (.ref a1)])) rfl rfl (hb hby d8_70)
  have fw84 : Fld Z h84 a1 own_cL "carried" own_dB (.ref r65) := f67.same W84
  have f85 := f66.wr W84
  have f86 := f68.other W84 (Or.inr (slot_ne (Or.inr (own_w hw 32 rfl)) (Or.inl (own_w hw 306 rfl)) (by decide) (t := (.object own_cF)) (t' := (.object own_cB)) (by decide) (by decide)))
  have f87 := f69.other W84 (Or.inr (slot_ne (Or.inl (own_w hw 22 rfl)) (Or.inl (own_w hw 306 rfl)) (by decide) (t := .long) (t' := (.object own_cB)) (by decide) (by decide)))
  have f88 := f70.other W84 (Ne.symm ne_a1_xa)
  have f89 := f71.wr W84 g_a1
  have f90 := f72.wr W84
  have f91 := f73.other W84 (Or.inl (Ne.symm ne_a1_kp))
  have f92 := f74.other W84 (Or.inl (Ne.symm ne_a1_kp))
  have f93 := f75.other W84 (Or.inl (Ne.symm ne_a1_kp))
  have f94 := f76.wr W84
  have f95 := f77.other W84 (Or.inl (Ne.symm ne_a1_fo))
  have f96 := f78.other W84 (Or.inl (Ne.symm ne_a1_fo))
  have f97 := f79.wr W84
  have f98 := f80.other W84 (Or.inl (Ne.symm ne_a1_a2))
  have f99 := f81.other W84 (Or.inl (Ne.symm ne_a1_a2))
  have f100 := f82.other W84 (Or.inl (Ne.symm ne_a1_a2))
  have f101 := f83.other W84 (Or.inl (Ne.symm ne_a1_a2))
  have f102 := p65_0.wr W84
  have N84 := Fr.snoc X84 N65 g_a1
  have Z84 := Nat.le_trans Z65 (Keep.of_wr W84).1
  have K84 := K65.wr W84 (Or.inl (List.mem_of_getElem? (i := 0) rfl))
  refine own_st st84 ?_
  try clear X65 st84 f66 f68 f69 f70 f71 f72 f73 f74 f75 f76 f77 f78 f79 f80 f81 f82 f83 p65_0
  refine own_xaloadN X84 hx hby d8_73 rfl rfl ?_
  obtain ⟨T103, X103, e103, st103⟩ := getF X84 hx hZ hown (host := "") (Or.inl (own_w hw 305 rfl)) Via.refl e84 fw84 (g := (mkF m 74 #[own_R a1, own_R a2, own_N, own_I 0] [(.ref a1)])) rfl rfl (hb hby d8_74)
  refine own_st st103 ?_
  try clear X84 e84 st103
  refine own_xaloadN X103 hx hby d8_77 rfl rfl ?_
  obtain ⟨cq104, kq104, qv104a, qv104b, qv104c⟩ := isOf hZ e103 f102
  obtain ⟨_, T104, L104, Lc104, X104, hQ104, Nf104, st104⟩ := own_back (cells := 1) (slots := 7) (rc := 0) (rs := 0) N84 (X103.virtualBack hx (y := own_mt41) (z := own_mt41) hown (mvT hZ (own_w hw 336 rfl)) (mvT hZ (own_w hw 337 rfl)) (notFace_of_selects (args := #[]) (mvT hZ (own_w hw 339 rfl))) (mvT hZ (own_w hw 339 rfl)) (mvT hZ (own_w hw 338 rfl)) (by decide) (backOf (W := 0) (rm41 l Z a0 hw [] r65 a2 (xa) (xk) (ws) (kp) ((3 : Int32)) ((4 : Int32)) h84 n0 Z84 g_a2 ne_a2_xa f97 f98 f99 f100 f101 f88 (by decide) ⟨by decide, by decide⟩ (by decide) (own_hv (i := 3) (by decide) y3 (by decide))) hZ (own_w hw 340 rfl) (own_w hw 314 rfl) (by decide) (by decide)) qv104a qv104c (g := (mkF m 78 #[own_R a1, own_R a2, own_N, own_I 0] [(.ref a2), (.ref r65)])) rfl (by rw [hml]; rfl) (Steps.refl _) (argsL := [(.ref a2)]) (rest := []) (lenOf pd_8_29 rfl) rfl (by show 2 * 0 + _ ≤ _; exact Nat.le_of_eq rfl) (hb hby d8_78) (fun _ _ => ⟨rfl, e103, (by decide : 1 + 0 ≤ _), (by decide : 7 + 0 ≤ _)⟩))
  obtain ⟨rfl, N104q, Kq104, p104_0, p104_1, p104_2, p104_3, p104_4⟩ := hQ104
  have N104 := Nf104 N104q
  have f105 := f85.keep Kq104
  have f106 := fw84.keep Kq104 (ninS ne_a1_a2 nin0)
  have f107 := f87.keep Kq104 (ninS ne_a1_a2 nin0)
  have f108 := f88.keep Kq104 (ninS (Ne.symm ne_a2_xa) nin0)
  have f109 := f89.keep Kq104 (allS (P := fun x => n0 ≤ x) g_a2 all0)
  have f110 := f90.keep Kq104
  have f111 := f91.keep Kq104 (ninS (Ne.symm ne_a2_kp) nin0)
  have f112 := f92.keep Kq104 (ninS (Ne.symm ne_a2_kp) nin0)
  have f113 := f93.keep Kq104 (ninS (Ne.symm ne_a2_kp) nin0)
  have f114 := f102.keep Kq104
  have Z104 := Nat.le_trans Z84 Kq104.1
  have K104 := K84.trans Kq104 (allS (P := fun x => x ∈ [a1, a2, kp] ∨ h0.size ≤ x) (Or.inl (List.mem_of_getElem? (i := 1) rfl)) all0)
  refine own_tr st104 ?_
  try clear X103 e103 st104 N84 N104q f85 fw84 f87 f88 f89 f90 f91 f92 f93 f102
  refine own_xaloadN X104 hx hby d8_81 rfl rfl ?_
  refine own_xaloadN X104 hx hby d8_82 rfl rfl ?_
  obtain ⟨cq115, kq115, qv115a, qv115b, qv115c⟩ := isOf hZ rfl p104_0
  obtain ⟨_, T115, L115, Lc115, X115, hQ115, Nf115, st115⟩ := own_back (cells := 1) (slots := 7) (rc := 2) (rs := 13) N104 (X104.virtualBack hx (y := own_mt13) (z := own_mt13) hown (mvT hZ (own_w hw 103 rfl)) (mvT hZ (own_w hw 104 rfl)) (notFace_of_selects (args := #[]) (mvT hZ (own_w hw 106 rfl))) (mvT hZ (own_w hw 106 rfl)) (mvT hZ (own_w hw 105 rfl)) (by decide) (backOf (W := 1) (rm13d l Z a0 hw [] a2 xx (xa) (xk) (ws) (kp) ((4 : Int32)) ((5 : Int32)) ((6 : Int32)) ((7 : Int32)) ((8 : Int32)) (vb0) (vb1) (vb2) T104.heap n0 Z104 g_a2 g_kp ne_a2_xa ne_a2_kp ne_kp_xa p104_0 p104_1 p104_2 p104_3 p104_4 f108 f110 f111 f112 f113 f109 (by assumption) (by decide) ⟨by decide, by decide⟩ (by decide) (own_hv (i := 4) (by decide) y4 (by decide)) (by decide) ⟨by decide, by decide⟩ (by decide) (own_hv (i := 5) (by decide) y5 hb0) (by decide) ⟨by decide, by decide⟩ (by decide) (own_hv (i := 6) (by decide) y6 hb1) (by decide) ⟨by decide, by decide⟩ (by decide) (own_hv (i := 7) (by decide) y7 hb2) hn0 hn1 hn2) hZ (own_w hw 107 rfl) (own_w hw 41 rfl) (by decide) (by decide)) qv115a qv115c (g := (mkF m 83 #[own_R a1, own_R a2, own_N, own_I 0] [(.ref a2), (.ref a1)])) rfl (by rw [hml]; rfl) (Steps.refl _) (argsL := []) (rest := [(.ref a1)]) (lenOf pd_8_8 rfl) rfl (by show 2 * 0 + _ ≤ _; exact Nat.le_of_eq rfl) (hb hby d8_83) (fun _ _ => ⟨rfl, rfl, (by decide : 1 + 2 ≤ _), (by decide : 7 + 13 ≤ _)⟩))
  obtain ⟨r115, yv_115, mv_115, dv_115, rfl, hr115, fr115, N115q, Kq115, p115_0, p115_1, p115_2, p115_3, p115_4, p115_5, p115_6, p115_7, p115_8⟩ := hQ115
  have N115 := Nf115 N115q
  have ne_a1_r115 : a1 ≠ r115 := Nat.ne_of_lt (Nat.lt_of_lt_of_le f105.lt fr115)
  have ne_a2_r115 : a2 ≠ r115 := Nat.ne_of_lt (Nat.lt_of_lt_of_le p104_0.lt fr115)
  have ne_kp_r115 : kp ≠ r115 := Nat.ne_of_lt (Nat.lt_of_lt_of_le f110.lt fr115)
  have ne_r65_r115 : r65 ≠ r115 := Nat.ne_of_lt (Nat.lt_of_lt_of_le f114.lt fr115)
  have ne_xa_r115 : xa ≠ r115 := Nat.ne_of_lt (Nat.lt_of_lt_of_le f108.lt fr115)
  have g_r115 : n0 ≤ r115 := Nat.le_trans Z104 fr115
  have sz_r115 : h0.size ≤ r115 := Nat.le_trans K104.1 fr115
  have f116 := f105.keep Kq115
  have f117 := f106.keep Kq115 (ninS ne_a1_a2 (ninS ne_a1_kp nin0))
  have f118 := f107.keep Kq115 (ninS ne_a1_a2 (ninS ne_a1_kp nin0))
  have f119 := f108.keep Kq115 (ninS (Ne.symm ne_a2_xa) (ninS (Ne.symm ne_kp_xa) nin0))
  have f120 := f109.keep Kq115 (allS (P := fun x => n0 ≤ x) g_a2 (allS (P := fun x => n0 ≤ x) g_kp all0))
  have f121 := f110.keep Kq115
  have f122 := f114.keep Kq115
  have Z115 := Nat.le_trans Z104 Kq115.1
  have K115 := K104.trans Kq115 (allS (P := fun x => x ∈ [a1, a2, kp] ∨ h0.size ≤ x) (Or.inl (List.mem_of_getElem? (i := 1) rfl)) (allS (P := fun x => x ∈ [a1, a2, kp] ∨ h0.size ≤ x) (Or.inl (List.mem_of_getElem? (i := 2) rfl)) all0))
  refine own_tr st115 ?_
  try clear X104 st115 N104 N115q f105 f106 f107 f108 f109 f110 f114
  obtain ⟨_, T123, L123, Lc123, X123, hQ123, Nf123, st123⟩ := own_backS (cells := 3) (slots := 20) (rc := 0) (rs := 0) N115 (Jvm.LawKit.callS X115 hx (y := own_mt15) hown (mvT hZ (own_w hw 119 rfl)) (mvT hZ (own_w hw 120 rfl)) (mvT hZ (own_w hw 4 rfl)) (mvT hZ (own_w hw 121 rfl)) (by decide) (backOf (W := 1) (rm15d l Z a0 hw [] r115 xx (yv_115) (mv_115) (dv_115) T115.heap n0 Z115 p115_5 p115_6 p115_7 p115_8 f120 (by assumption)) hZ (own_w hw 121 rfl) (own_w hw 4 rfl) (by decide) (by decide)) (g := (mkF m 86 #[own_R a1, own_R a2, own_N, own_I 0] [(.ref r115), (.ref a1)])) rfl (by rw [hml]; rfl) (argsL := [(.ref r115)]) (rest := [(.ref a1)]) (lenOf pd_8_10 rfl) rfl (by show 2 * 0 + _ ≤ _; exact Nat.le_of_eq rfl) (hb hby d8_86) (fun _ _ => ⟨rfl, rfl, (by decide : 3 + 0 ≤ _), (by decide : 20 + 0 ≤ _)⟩))
  obtain ⟨r123, rfl, hr123, N123q, e123⟩ := hQ123
  have N123 := Nf123 N123q
  refine own_tr st123 ?_
  try clear X115 st123 N115 N123q
  obtain ⟨T124, h124, X124, e124, W124, st124⟩ := putF X123 hx hZ hown (host := "") (Or.inl (own_w hw 21 rfl)) Via.refl e123 f118 f116 (Or.inl (own_w hw 22 rfl)) (own_w hw 3 rfl) (ty := .long) (by decide) rfl rfl (g := (mkF m 89 #[own_R a1, own_R a2, own_N, own_I 0] [(.long r123), (.ref a1)])) rfl rfl (hb hby d8_89)
  have fw124 : Fld Z h124 a1 own_cL "lastFoldedDay" "J" (.long r123) := f118.same W124
  have f125 := f116.wr W124
  have f126 := f117.other W124 (Or.inr (slot_ne (Or.inl (own_w hw 306 rfl)) (Or.inl (own_w hw 22 rfl)) (by decide) (t := (.object own_cB)) (t' := .long) (by decide) (by decide)))
  have f127 := f119.other W124 (Ne.symm ne_a1_xa)
  have f128 := f120.wr W124 g_a1
  have f129 := f121.wr W124
  have f130 := f122.wr W124
  have f131 := p115_0.wr W124
  have f132 := p115_1.other W124 (Or.inl (Ne.symm ne_a1_a2))
  have f133 := p115_2.other W124 (Or.inl (Ne.symm ne_a1_a2))
  have f134 := p115_3.other W124 (Or.inl (Ne.symm ne_a1_a2))
  have f135 := p115_4.other W124 (Or.inl (Ne.symm ne_a1_a2))
  have f136 := p115_5.wr W124
  have f137 := p115_6.other W124 (Or.inl (Ne.symm ne_a1_r115))
  have f138 := p115_7.other W124 (Or.inl (Ne.symm ne_a1_r115))
  have f139 := p115_8.other W124 (Or.inl (Ne.symm ne_a1_r115))
  have N124 := Fr.snoc X124 N123 g_a1
  have Z124 := Nat.le_trans Z115 (Keep.of_wr W124).1
  have K124 := K115.wr W124 (Or.inl (List.mem_of_getElem? (i := 0) rfl))
  refine own_st st124 ?_
  try clear X123 e123 st124 f116 f117 f119 f120 f121 f122 p115_0 p115_1 p115_2 p115_3 p115_4 p115_5 p115_6 p115_7 p115_8
  refine own_tail8 hw Bd.admits hZ hx hby hml hown hnm (ldv := r123) (cv := (.ref r65)) (q0 := 8) (q1 := 9) (q2 := 10) (q3 := 11) (q4 := 12) (q5 := 13) (q6 := 14) (q7 := 15) (q8 := 16) (q9 := 17) (q10 := 18) (q11 := 19) HP g_a1 g_a2 g_kp ne_a1_a2 ne_a1_xa ne_a2_xa (X124.more (by decide) (by decide)) e124 N124 Z124 K124 f125 fw124 f126 f131 f132 f133 f134 f135 f127 f128 (by decide) (by decide) (by decide) (by decide) (by decide) (by decide) (by decide) (by decide) (by decide) (by decide) (by decide) (own_hv (i := 8) (by decide) y8 hl1) (own_hv (i := 9) (by decide) y9 (by decide)) (own_hv (i := 10) (by decide) y10 (by decide)) (own_hv (i := 11) (by decide) y11 (by decide)) (own_hv (i := 12) (by decide) y12 (by decide)) (own_hv (i := 13) (by decide) y13 (by decide)) (own_hv (i := 14) (by decide) y14 (by decide)) (own_hv (i := 15) (by decide) y15 (by decide)) (own_hv (i := 16) (by decide) y16 (by decide)) (own_hv (i := 17) (by decide) y17 (own_n01 h1s)) (own_hv (i := 18) (by decide) y18 (own_n01 h1h)) hl0 h1s h1h ?_
  intro T140 L140 h140 X140 e140 N140 Z140 K140 F140_0 F140_1 F140_2
  obtain ⟨fs, hr, hrun, hended, hW, hsame⟩ := X140.leave (v := none) (fun _ => rfl)
  refine ⟨_, X140.returnOut hx Bd.returns (hb hby d8_237) hr, fin _ _ _ hrun hended ?_ ⟨⟨_, rfl⟩, hW, hsame.mono (by decide) (by decide)⟩⟩
  show Q8kd Z a1 a2 xx xa xk ws kp fi lb zs zh vb0 vb1 vb2 fo h0 n0 _ T140.heap _
  rw [e140]
  exact ⟨r123, r65, rfl, N140, K140, F140_0, F140_1, F140_2, hr123⟩
theorem pn_0 : plainName "com/example/deferline/deferline/books/LedgerCarriedPinLaw" = true := by first | (simp [plainName, overriddenIn]; done) | decide +kernel
theorem pd_0_0 : parseMethodDescriptor "()V" = some ⟨[], none⟩ := by decide +kernel
theorem pd_0_2 : parseMethodDescriptor "([BII)V" = some ⟨[(.array .byte), .int, .int], none⟩ := by decide +kernel
theorem pd_0_3 : parseMethodDescriptor "(Lcom/example/deferline/deferline/io/KeptState$Reader;Lcom/example/deferline/deferline/books/LedgerEntry$Kept;)V" = some ⟨[(.object own_cR), (.object "com/example/deferline/deferline/books/LedgerEntry$Kept")], none⟩ := by decide +kernel
theorem pd_0_11 : parseMethodDescriptor "()Lcom/example/deferline/deferline/books/AccountBooks;" = some ⟨[], some (.object own_cB)⟩ := by decide +kernel
theorem pd_0_12 : parseMethodDescriptor "(Ljava/time/LocalDate;Lcom/example/deferline/deferline/market/Funds;Lcom/example/deferline/deferline/market/TradingCalendar;)V" = some ⟨[(.object own_cD), (.object "com/example/deferline/deferline/market/Funds"), (.object "com/example/deferline/deferline/market/TradingCalendar")], none⟩ := by decide +kernel
theorem pd_0_1 : parseMethodDescriptor "(Lcom/example/deferline/deferline/books/Folding;Lcom/example/deferline/deferline/books/Ledger$Posting;Lcom/example/deferline/deferline/books/Participant;Ljava/lang/String;)V" = some ⟨[(.object own_cF), (.object "com/example/deferline/deferline/books/Ledger$Posting"), (.object "com/example/deferline/deferline/books/Participant"), (.object "java/lang/String")], none⟩ := by decide +kernel
theorem ef_0 (m : MethodId) (x0 : Int32) (x1 : Int32) (x2 : Int32) : entryFrame m #[(.int x0), (.int x1), (.int x2)] maxLocals = mkF m 0 #[own_I x0, own_I x1, own_I x2, .unset, .unset, .unset, .unset, .unset, .unset, .unset, .unset, .unset, .unset, .unset, .unset, .unset] [] := by first | (simp [entryFrame, mkF, argsToLocals, Value.category, maxLocals]; done) | rfl
def Q0 (Z : State) (p1 : Int32) (p2 : Int32) (p3 : Int32) (xx : Nat → Nat) (h0 : Heap) (n0 : Nat) (v : Option Value) (h : Heap) (L : List Loc) : Prop := v = some (.int 1) ∧ Fr n0 L
theorem rm0 (l : Launch) (Z : State) (a0 : Array Value) (hw : ∀ d ∈ tables_1, d.before a0 Z = true) (ws : List Jvm.Cond) (p1 : Int32) (p2 : Int32) (p3 : Int32) (xx : Nat → Nat) (h0 : Heap) (n0 : Nat) (Z0 : n0 ≤ h0.size) (P0 : Old Z n0 h0) (HP : own_P Z xx) :
    MetFree l x (head1 (Jvm.Cond.code x code maxLocals ret :: ws) room_1) (fun a U => a = #[(.int p1), (.int p2), (.int p3)] ∧ Z.Warmed39 U.vm ∧ U.heap = h0) (fun _ _ _ _ _ => True) (fun _ U o U' => ∃ v L, o = .returned v ∧ Q0 Z p1 p2 p3 xx h0 n0 v U'.heap L ∧ FrameEnd U o U' L 8 77) := by
  refine MetFree.of_bodySF (plainFor_of_name pn_0) hisR ?_
  intro p e s m args below meth c s₁ Bd hml0 hP hK
  obtain ⟨rfl, hZ, hh⟩ := hP
  have hx := Bd.exec
  have hby := Bd.bytes
  have hml : c.maxLocals = 16 := hml0
  have hown : s.vm.findClass "com/example/deferline/deferline/books/LedgerCarriedPinLaw" = some m.cls := findClass_of_methodNamed Bd.named
  have hnm := (name_of_methodNamed Bd.named Bd.method).1
  have X0 : Stand p l e room_1 s m #[(.int p1), (.int p2), (.int p3)] below meth c s₁ [] 0 0 := Stand.of_body Bd
  have e0 : s₁.heap = h0 := by rw [← hh, Bd.state]; rfl
  have N0 := Fr.nil n0
  suffices G0 : ∀ K : State → Prop, (∀ (n : State) (v : Option Value) (L : List Loc), n.status = .running → Ended n below (.returned v) → Q0 Z p1 p2 p3 xx h0 n0 v n.heap L → FrameEnd s (.returned v) n L 8 77 → K n) → own_Go p e below K (s₁.setTop (mkF m 0 #[own_I p1, own_I p2, own_I p3, own_U, own_U, own_U, own_U, own_U, own_U, own_U, own_U, own_U, own_U, own_U, own_U, own_U] [])) by
    obtain ⟨t, st, o, a, b, v, L, e1, q, fe⟩ := G0 (fun n => ∃ o, n.status = .running ∧ Ended n below o ∧ ∃ v L, o = .returned v ∧ Q0 Z p1 p2 p3 xx h0 n0 v n.heap L ∧ FrameEnd s o n L 8 77) (fun n v L a b q f => ⟨_, a, b, v, L, rfl, q, f⟩)
    exact ⟨t, o, castTop (ef_0 m p1 p2 p3) st, a, b, v, L, e1, q, fe⟩
  intro K fin
  show own_Go p e below K (s₁.setTop (mkF m 0 #[own_I p1, own_I p2, own_I p3, own_U, own_U, own_U, own_U, own_U, own_U, own_U, own_U, own_U, own_U, own_U, own_U, own_U] []))
  have J11 : ∀ (T' : State) (locs' : List Loc) (X' : Stand p l e room_1 s m #[(.int p1), (.int p2), (.int p3)] below meth c T' locs' 0 0) (e' : T'.heap = h0) (N' : Fr n0 locs') (vf0 : Int32), (vf0 = 0 ∨ vf0 = 1) → own_Go p e below K (T'.setTop (mkF m 11 #[own_I p1, own_I p2, own_I p3, own_U, own_U, own_U, own_U, own_U, own_U, own_U, own_U, own_U, own_U, own_U, own_U, own_U] [(.int vf0)])) := by
    intro T1 locs1 X1 e1 N1 vf0 hj_vf
    refine own_xistoreN X1 hx hby at_11 (l' := #[own_I p1, own_I p2, own_I p3, own_I vf0, own_U, own_U, own_U, own_U, own_U, own_U, own_U, own_U, own_U, own_U, own_U, own_U]) rfl ?_
    have J27 : ∀ (T' : State) (locs' : List Loc) (X' : Stand p l e room_1 s m #[(.int p1), (.int p2), (.int p3)] below meth c T' locs' 0 0) (e' : T'.heap = h0) (N' : Fr n0 locs') (vk0 : Int32), (vk0 = 0 ∨ (vk0 = 1 ∧ vf0 = 1)) → own_Go p e below K (T'.setTop (mkF m 27 #[own_I p1, own_I p2, own_I p3, own_I vf0, own_U, own_U, own_U, own_U, own_U, own_U, own_U, own_U, own_U, own_U, own_U, own_U] [(.int vk0)])) := by
      intro T2 locs2 X2 e2 N2 vk0 hj_vk
      refine own_xistore X2 hx hby at_27 (l' := #[own_I p1, own_I p2, own_I p3, own_I vf0, own_I vk0, own_U, own_U, own_U, own_U, own_U, own_U, own_U, own_U, own_U, own_U, own_U]) rfl ?_
      have J40 : ∀ (T' : State) (locs' : List Loc) (X' : Stand p l e room_1 s m #[(.int p1), (.int p2), (.int p3)] below meth c T' locs' 0 0) (e' : T'.heap = h0) (N' : Fr n0 locs') (vd0 : Int32), (vd0 = 0 ∨ vd0 = 1) → own_Go p e below K (T'.setTop (mkF m 40 #[own_I p1, own_I p2, own_I p3, own_I vf0, own_I vk0, own_U, own_U, own_U, own_U, own_U, own_U, own_U, own_U, own_U, own_U, own_U] [(.int vd0)])) := by
        intro T3 locs3 X3 e3 N3 vd0 hj_vd
        refine own_xistore X3 hx hby at_40 (l' := #[own_I p1, own_I p2, own_I p3, own_I vf0, own_I vk0, own_I vd0, own_U, own_U, own_U, own_U, own_U, own_U, own_U, own_U, own_U, own_U]) rfl ?_
        have J54 : ∀ (T' : State) (locs' : List Loc) (X' : Stand p l e room_1 s m #[(.int p1), (.int p2), (.int p3)] below meth c T' locs' 0 0) (e' : T'.heap = h0) (N' : Fr n0 locs') (vi0 : Int32), (vi0 = 0 ∨ vi0 = 1) → own_Go p e below K (T'.setTop (mkF m 54 #[own_I p1, own_I p2, own_I p3, own_I vf0, own_I vk0, own_I vd0, own_U, own_U, own_U, own_U, own_U, own_U, own_U, own_U, own_U, own_U] [(.int vi0)])) := by
          intro T4 locs4 X4 e4 N4 vi0 hj_vi
          refine own_xistore X4 hx hby at_54 (l' := #[own_I p1, own_I p2, own_I p3, own_I vf0, own_I vk0, own_I vd0, own_I vi0, own_U, own_U, own_U, own_U, own_U, own_U, own_U, own_U, own_U]) rfl ?_
          have J68 : ∀ (T' : State) (locs' : List Loc) (X' : Stand p l e room_1 s m #[(.int p1), (.int p2), (.int p3)] below meth c T' locs' 0 0) (e' : T'.heap = h0) (N' : Fr n0 locs') (vs0 : Int32), (vs0 = 0 ∨ vs0 = 1) → own_Go p e below K (T'.setTop (mkF m 68 #[own_I p1, own_I p2, own_I p3, own_I vf0, own_I vk0, own_I vd0, own_I vi0, own_U, own_U, own_U, own_U, own_U, own_U, own_U, own_U, own_U] [(.int vs0)])) := by
            intro T5 locs5 X5 e5 N5 vs0 hj_vs
            refine own_xistore X5 hx hby at_68 (l' := #[own_I p1, own_I p2, own_I p3, own_I vf0, own_I vk0, own_I vd0, own_I vi0, own_I vs0, own_U, own_U, own_U, own_U, own_U, own_U, own_U, own_U]) rfl ?_
            have J82 : ∀ (T' : State) (locs' : List Loc) (X' : Stand p l e room_1 s m #[(.int p1), (.int p2), (.int p3)] below meth c T' locs' 0 0) (e' : T'.heap = h0) (N' : Fr n0 locs') (vh0 : Int32), (vh0 = 0 ∨ vh0 = 1) → own_Go p e below K (T'.setTop (mkF m 82 #[own_I p1, own_I p2, own_I p3, own_I vf0, own_I vk0, own_I vd0, own_I vi0, own_I vs0, own_U, own_U, own_U, own_U, own_U, own_U, own_U, own_U] [(.int vh0)])) := by
              intro T6 locs6 X6 e6 N6 vh0 hj_vh
              refine own_xistore X6 hx hby at_82 (l' := #[own_I p1, own_I p2, own_I p3, own_I vf0, own_I vk0, own_I vd0, own_I vi0, own_I vs0, own_I vh0, own_U, own_U, own_U, own_U, own_U, own_U, own_U]) rfl ?_
              refine own_xiloadN X6 hx hby at_84 rfl ?_
              refine own_st (X6.ldcInt hx hown (mvT hZ (own_w hw 0 rfl)) (g := (mkF m 85 #[own_I p1, own_I p2, own_I p3, own_I vf0, own_I vk0, own_I vd0, own_I vi0, own_I vs0, own_I vh0, own_U, own_U, own_U, own_U, own_U, own_U, own_U] [(.int p2)])) rfl (hb hby at_85)) ?_
              refine own_xiand X6 hx hby at_87 ?_
              refine own_xistore X6 hx hby at_88 (l' := #[own_I p1, own_I p2, own_I p3, own_I vf0, own_I vk0, own_I vd0, own_I vi0, own_I vs0, own_I vh0, own_I (p2 &&& (2097151 : Int32)), own_U, own_U, own_U, own_U, own_U, own_U]) rfl ?_
              refine own_xbipush X6 hx hby at_90 24 rfl ?_
              obtain ⟨T7, h7, k7, X7, e7, E7, A7, st7⟩ := newP X6 hx hZ (own_w hw 1 rfl) e6 (g := (mkF m 92 #[own_I p1, own_I p2, own_I p3, own_I vf0, own_I vk0, own_I vd0, own_I vi0, own_I vs0, own_I vh0, own_I (p2 &&& (2097151 : Int32)), own_U, own_U, own_U, own_U, own_U, own_U] [(.int 24)])) rfl (hb hby at_92) rfl (by decide) (cap := 24) (by decide) (by decide) (by decide) (by decide)
              obtain ⟨b7, g7⟩ : ∃ z, z = h0.size := ⟨_, rfl⟩
              rw [← g7] at A7 st7
              have g_b7 : n0 ≤ b7 := Nat.le_trans Z0 (Nat.le_of_eq g7.symm)
              have f8 := P0.ext E7
              have V7 : Arv Z h7 b7 k7 .byte (24 : Int32) [(.int 0), (.int 0), (.int 0), (.int 0), (.int 0), (.int 0), (.int 0), (.int 0), (.int 0), (.int 0), (.int 0), (.int 0), (.int 0), (.int 0), (.int 0), (.int 0), (.int 0), (.int 0), (.int 0), (.int 0), (.int 0), (.int 0), (.int 0), (.int 0)] (.int 0) := (Arv.new A7 (by decide)).pad (pad_rep [] (.int 0) 24)
              have Z7 := Nat.le_trans Z0 E7.1
              refine own_st st7 ?_
              try clear X6 e6 st7 P0
              refine own_xastore X7 hx hby at_94 rfl (l' := #[own_I p1, own_I p2, own_I p3, own_I vf0, own_I vk0, own_I vd0, own_I vi0, own_I vs0, own_I vh0, own_I (p2 &&& (2097151 : Int32)), own_R b7, own_U, own_U, own_U, own_U, own_U]) rfl ?_
              refine own_xiconst X7 hx hby at_96 0 rfl ?_
              refine own_xistore X7 hx hby at_97 (l' := #[own_I p1, own_I p2, own_I p3, own_I vf0, own_I vk0, own_I vd0, own_I vi0, own_I vs0, own_I vh0, own_I (p2 &&& (2097151 : Int32)), own_R b7, own_I 0, own_U, own_U, own_U, own_U]) rfl ?_
              refine own_xaload X7 hx hby at_99 rfl rfl ?_
              refine own_xiload X7 hx hby at_101 rfl ?_
              refine own_xiinc X7 hx hby at_103 rfl (l' := #[own_I p1, own_I p2, own_I p3, own_I vf0, own_I vk0, own_I vd0, own_I vi0, own_I vs0, own_I vh0, own_I (p2 &&& (2097151 : Int32)), own_R b7, own_I 1, own_U, own_U, own_U, own_U]) rfl ?_
              refine own_xiconst X7 hx hby at_106 0 rfl ?_
              obtain ⟨cl9, Ar9, qa9, Sa9, Ma9, Ha9, Ga9⟩ := id V7
              have hin9 : ¬ ((0 : Int32) < 0 ∨ cl9.slots.size ≤ ((0 : Int32)).toNatClampNeg) := inb_of Sa9 ⟨by decide, by decide⟩
              obtain ⟨T10, h10, X10, e10, W10, st10⟩ := stB X7 hx hZ e7 Ar9 (j := (0 : Int32)) hin9 (g := (mkF m 107 #[own_I p1, own_I p2, own_I p3, own_I vf0, own_I vk0, own_I vd0, own_I vi0, own_I vs0, own_I vh0, own_I (p2 &&& (2097151 : Int32)), own_R b7, own_I 1, own_U, own_U, own_U, own_U] [(.int 0), (.int 0), (.ref b7)])) rfl rfl (hb hby at_107)
              have V10 : Arv Z h10 b7 k7 .byte (24 : Int32) [(.int ((0 : Int32).toInt8.toInt32)), (.int 0), (.int 0), (.int 0), (.int 0), (.int 0), (.int 0), (.int 0), (.int 0), (.int 0), (.int 0), (.int 0), (.int 0), (.int 0), (.int 0), (.int 0), (.int 0), (.int 0), (.int 0), (.int 0), (.int 0), (.int 0), (.int 0), (.int 0)] (.int 0) := Arv.set Ar9 qa9 Sa9 Ma9 Ha9 Ga9 (fits_nar_byte _) W10 0 rfl (Nat.le_of_ble_eq_true rfl)
              have f11 := f8.wr W10 g_b7
              have N10 := Fr.snoc X10 N6 g_b7
              have Z10 := Nat.le_trans Z7 (Keep.of_wr W10).1
              refine own_st st10 ?_
              show own_Go p e below K (T10.setTop (mkF m 108 #[own_I p1, own_I p2, own_I p3, own_I vf0, own_I vk0, own_I vd0, own_I vi0, own_I vs0, own_I vh0, own_I (p2 &&& (2097151 : Int32)), own_R b7, own_I 1, own_U, own_U, own_U, own_U] []))
              try clear X7 e7 st10 f8
              refine own_xaload X10 hx hby at_108 rfl rfl ?_
              refine own_xiload X10 hx hby at_110 rfl ?_
              refine own_xiinc X10 hx hby at_112 rfl (l' := #[own_I p1, own_I p2, own_I p3, own_I vf0, own_I vk0, own_I vd0, own_I vi0, own_I vs0, own_I vh0, own_I (p2 &&& (2097151 : Int32)), own_R b7, own_I 2, own_U, own_U, own_U, own_U]) rfl ?_
              have J125 : ∀ (T' : State) (locs' : List Loc) (X' : Stand p l e room_1 s m #[(.int p1), (.int p2), (.int p3)] below meth c T' locs' 1 24) (e' : T'.heap = h10) (N' : Fr n0 locs') (wi0 : Int32), (wi0 = 0 ∨ wi0 = 1) → own_Go p e below K (T'.setTop (mkF m 125 #[own_I p1, own_I p2, own_I p3, own_I vf0, own_I vk0, own_I vd0, own_I vi0, own_I vs0, own_I vh0, own_I (p2 &&& (2097151 : Int32)), own_R b7, own_I 2, own_U, own_U, own_U, own_U] [(.int wi0), (.int 1), (.ref b7)])) := by
                intro T12 locs12 X12 e12 N12 wi0 hj_wi
                refine own_xi2b X12 hx hby at_125 ?_
                obtain ⟨cl13, Ar13, qa13, Sa13, Ma13, Ha13, Ga13⟩ := id V10
                have hin13 : ¬ ((1 : Int32) < 0 ∨ cl13.slots.size ≤ ((1 : Int32)).toNatClampNeg) := inb_of Sa13 ⟨by decide, by decide⟩
                obtain ⟨T14, h14, X14, e14, W14, st14⟩ := stB X12 hx hZ e12 Ar13 (j := (1 : Int32)) hin13 (g := (mkF m 126 #[own_I p1, own_I p2, own_I p3, own_I vf0, own_I vk0, own_I vd0, own_I vi0, own_I vs0, own_I vh0, own_I (p2 &&& (2097151 : Int32)), own_R b7, own_I 2, own_U, own_U, own_U, own_U] [(.int (wi0.toInt8.toInt32)), (.int 1), (.ref b7)])) rfl rfl (hb hby at_126)
                have id14 : nar .byte (wi0.toInt8.toInt32) = (wi0.toInt8.toInt32) := (own_nb _)
                rw [id14] at W14
                have V14 : Arv Z h14 b7 k7 .byte (24 : Int32) [(.int ((0 : Int32).toInt8.toInt32)), (.int (wi0.toInt8.toInt32)), (.int 0), (.int 0), (.int 0), (.int 0), (.int 0), (.int 0), (.int 0), (.int 0), (.int 0), (.int 0), (.int 0), (.int 0), (.int 0), (.int 0), (.int 0), (.int 0), (.int 0), (.int 0), (.int 0), (.int 0), (.int 0), (.int 0)] (.int 0) := Arv.set Ar13 qa13 Sa13 Ma13 Ha13 Ga13 (own_fit id14) W14 1 rfl (Nat.le_of_ble_eq_true rfl)
                have f15 := f11.wr W14 g_b7
                have N14 := Fr.snoc X14 N12 g_b7
                have Z14 := Nat.le_trans Z10 (Keep.of_wr W14).1
                refine own_st st14 ?_
                show own_Go p e below K (T14.setTop (mkF m 127 #[own_I p1, own_I p2, own_I p3, own_I vf0, own_I vk0, own_I vd0, own_I vi0, own_I vs0, own_I vh0, own_I (p2 &&& (2097151 : Int32)), own_R b7, own_I 2, own_U, own_U, own_U, own_U] []))
                try clear X12 e12 st14 f11
                refine own_xaload X14 hx hby at_127 rfl rfl ?_
                refine own_xiload X14 hx hby at_129 rfl ?_
                refine own_xiinc X14 hx hby at_131 rfl (l' := #[own_I p1, own_I p2, own_I p3, own_I vf0, own_I vk0, own_I vd0, own_I vi0, own_I vs0, own_I vh0, own_I (p2 &&& (2097151 : Int32)), own_R b7, own_I 3, own_U, own_U, own_U, own_U]) rfl ?_
                rcases hj_vk with rfl | ⟨rfl, rfl⟩
                · show own_Go p e below K (T14.setTop (mkF m 134 #[own_I p1, own_I p2, own_I p3, own_I vf0, own_I 0, own_I vd0, own_I vi0, own_I vs0, own_I vh0, own_I (p2 &&& (2097151 : Int32)), own_R b7, own_I 3, own_U, own_U, own_U, own_U] [(.int 2), (.ref b7)]))
                  refine own_xiload X14 hx hby at_134 rfl ?_
                  refine own_xifYes X14 hx hby at_136 (pc0 := 136) (pc' := 143) ((if0 _ _).trans (teq (by decide : (0 : Int32) = (0 : Int32))).1) rfl (by decide) (by decide) ?_
                  refine own_xiconst X14 hx hby at_143 0 rfl ?_
                  refine own_xi2b X14 hx hby at_144 ?_
                  obtain ⟨cl16, Ar16, qa16, Sa16, Ma16, Ha16, Ga16⟩ := id V14
                  have hin16 : ¬ ((2 : Int32) < 0 ∨ cl16.slots.size ≤ ((2 : Int32)).toNatClampNeg) := inb_of Sa16 ⟨by decide, by decide⟩
                  obtain ⟨T17, h17, X17, e17, W17, st17⟩ := stB X14 hx hZ e14 Ar16 (j := (2 : Int32)) hin16 (g := (mkF m 145 #[own_I p1, own_I p2, own_I p3, own_I vf0, own_I 0, own_I vd0, own_I vi0, own_I vs0, own_I vh0, own_I (p2 &&& (2097151 : Int32)), own_R b7, own_I 3, own_U, own_U, own_U, own_U] [(.int ((0 : Int32).toInt8.toInt32)), (.int 2), (.ref b7)])) rfl rfl (hb hby at_145)
                  have id17 : nar .byte ((0 : Int32).toInt8.toInt32) = ((0 : Int32).toInt8.toInt32) := (own_nb _)
                  rw [id17] at W17
                  have V17 : Arv Z h17 b7 k7 .byte (24 : Int32) [(.int ((0 : Int32).toInt8.toInt32)), (.int (wi0.toInt8.toInt32)), (.int ((0 : Int32).toInt8.toInt32)), (.int 0), (.int 0), (.int 0), (.int 0), (.int 0), (.int 0), (.int 0), (.int 0), (.int 0), (.int 0), (.int 0), (.int 0), (.int 0), (.int 0), (.int 0), (.int 0), (.int 0), (.int 0), (.int 0), (.int 0), (.int 0)] (.int 0) := Arv.set Ar16 qa16 Sa16 Ma16 Ha16 Ga16 (own_fit id17) W17 2 rfl (Nat.le_of_ble_eq_true rfl)
                  have f18 := f15.wr W17 g_b7
                  have N17 := Fr.snoc X17 N14 g_b7
                  have Z17 := Nat.le_trans Z14 (Keep.of_wr W17).1
                  refine own_st st17 ?_
                  show own_Go p e below K (T17.setTop (mkF m 146 #[own_I p1, own_I p2, own_I p3, own_I vf0, own_I 0, own_I vd0, own_I vi0, own_I vs0, own_I vh0, own_I (p2 &&& (2097151 : Int32)), own_R b7, own_I 3, own_U, own_U, own_U, own_U] []))
                  try clear X14 e14 st17 f15
                  refine own_xiload X17 hx hby at_146 rfl ?_
                  refine own_xifYes X17 hx hby at_148 (pc0 := 148) (pc' := 160) ((if0 _ _).trans (teq (by decide : (0 : Int32) = (0 : Int32))).1) rfl (by decide) (by decide) ?_
                  rcases hj_vd with rfl | rfl
                  · show own_Go p e below K (T17.setTop (mkF m 160 #[own_I p1, own_I p2, own_I p3, own_I vf0, own_I 0, own_I 0, own_I vi0, own_I vs0, own_I vh0, own_I (p2 &&& (2097151 : Int32)), own_R b7, own_I 3, own_U, own_U, own_U, own_U] []))
                    refine own_xiload X17 hx hby at_160 rfl ?_
                    refine own_xifYes X17 hx hby at_162 (pc0 := 162) (pc' := 230) ((if0 _ _).trans (teq (by decide : (0 : Int32) = (0 : Int32))).1) rfl (by decide) (by decide) ?_
                    refine own_xaload X17 hx hby at_230 rfl rfl ?_
                    refine own_xiload X17 hx hby at_232 rfl ?_
                    refine own_xiinc X17 hx hby at_234 rfl (l' := #[own_I p1, own_I p2, own_I p3, own_I vf0, own_I 0, own_I 0, own_I vi0, own_I vs0, own_I vh0, own_I (p2 &&& (2097151 : Int32)), own_R b7, own_I 4, own_U, own_U, own_U, own_U]) rfl ?_
                    refine own_xiconst X17 hx hby at_237 0 rfl ?_
                    obtain ⟨cl19, Ar19, qa19, Sa19, Ma19, Ha19, Ga19⟩ := id V17
                    have hin19 : ¬ ((3 : Int32) < 0 ∨ cl19.slots.size ≤ ((3 : Int32)).toNatClampNeg) := inb_of Sa19 ⟨by decide, by decide⟩
                    obtain ⟨T20, h20, X20, e20, W20, st20⟩ := stB X17 hx hZ e17 Ar19 (j := (3 : Int32)) hin19 (g := (mkF m 238 #[own_I p1, own_I p2, own_I p3, own_I vf0, own_I 0, own_I 0, own_I vi0, own_I vs0, own_I vh0, own_I (p2 &&& (2097151 : Int32)), own_R b7, own_I 4, own_U, own_U, own_U, own_U] [(.int 0), (.int 3), (.ref b7)])) rfl rfl (hb hby at_238)
                    have V20 : Arv Z h20 b7 k7 .byte (24 : Int32) [(.int ((0 : Int32).toInt8.toInt32)), (.int (wi0.toInt8.toInt32)), (.int ((0 : Int32).toInt8.toInt32)), (.int ((0 : Int32).toInt8.toInt32)), (.int 0), (.int 0), (.int 0), (.int 0), (.int 0), (.int 0), (.int 0), (.int 0), (.int 0), (.int 0), (.int 0), (.int 0), (.int 0), (.int 0), (.int 0), (.int 0), (.int 0), (.int 0), (.int 0), (.int 0)] (.int 0) := Arv.set Ar19 qa19 Sa19 Ma19 Ha19 Ga19 (fits_nar_byte _) W20 3 rfl (Nat.le_of_ble_eq_true rfl)
                    have f21 := f18.wr W20 g_b7
                    have N20 := Fr.snoc X20 N17 g_b7
                    have Z20 := Nat.le_trans Z17 (Keep.of_wr W20).1
                    refine own_st st20 ?_
                    show own_Go p e below K (T20.setTop (mkF m 239 #[own_I p1, own_I p2, own_I p3, own_I vf0, own_I 0, own_I 0, own_I vi0, own_I vs0, own_I vh0, own_I (p2 &&& (2097151 : Int32)), own_R b7, own_I 4, own_U, own_U, own_U, own_U] []))
                    try clear X17 e17 st20 f18
                    refine own_xaload X20 hx hby at_239 rfl rfl ?_
                    refine own_xiload X20 hx hby at_241 rfl ?_
                    refine own_xiinc X20 hx hby at_243 rfl (l' := #[own_I p1, own_I p2, own_I p3, own_I vf0, own_I 0, own_I 0, own_I vi0, own_I vs0, own_I vh0, own_I (p2 &&& (2097151 : Int32)), own_R b7, own_I 5, own_U, own_U, own_U, own_U]) rfl ?_
                    refine own_xiloadN X20 hx hby at_246 rfl ?_
                    refine own_xbipush X20 hx hby at_247 127 rfl ?_
                    refine own_xiand X20 hx hby at_249 ?_
                    refine own_xi2b X20 hx hby at_250 ?_
                    obtain ⟨cl22, Ar22, qa22, Sa22, Ma22, Ha22, Ga22⟩ := id V20
                    have hin22 : ¬ ((4 : Int32) < 0 ∨ cl22.slots.size ≤ ((4 : Int32)).toNatClampNeg) := inb_of Sa22 ⟨by decide, by decide⟩
                    obtain ⟨T23, h23, X23, e23, W23, st23⟩ := stB X20 hx hZ e20 Ar22 (j := (4 : Int32)) hin22 (g := (mkF m 251 #[own_I p1, own_I p2, own_I p3, own_I vf0, own_I 0, own_I 0, own_I vi0, own_I vs0, own_I vh0, own_I (p2 &&& (2097151 : Int32)), own_R b7, own_I 5, own_U, own_U, own_U, own_U] [(.int ((p3 &&& (127 : Int32)).toInt8.toInt32)), (.int 4), (.ref b7)])) rfl rfl (hb hby at_251)
                    have id23 : nar .byte ((p3 &&& (127 : Int32)).toInt8.toInt32) = ((p3 &&& (127 : Int32)).toInt8.toInt32) := (own_nb _)
                    rw [id23] at W23
                    have V23 : Arv Z h23 b7 k7 .byte (24 : Int32) [(.int ((0 : Int32).toInt8.toInt32)), (.int (wi0.toInt8.toInt32)), (.int ((0 : Int32).toInt8.toInt32)), (.int ((0 : Int32).toInt8.toInt32)), (.int ((p3 &&& (127 : Int32)).toInt8.toInt32)), (.int 0), (.int 0), (.int 0), (.int 0), (.int 0), (.int 0), (.int 0), (.int 0), (.int 0), (.int 0), (.int 0), (.int 0), (.int 0), (.int 0), (.int 0), (.int 0), (.int 0), (.int 0), (.int 0)] (.int 0) := Arv.set Ar22 qa22 Sa22 Ma22 Ha22 Ga22 (own_fit id23) W23 4 rfl (Nat.le_of_ble_eq_true rfl)
                    have f24 := f21.wr W23 g_b7
                    have N23 := Fr.snoc X23 N20 g_b7
                    have Z23 := Nat.le_trans Z20 (Keep.of_wr W23).1
                    refine own_st st23 ?_
                    show own_Go p e below K (T23.setTop (mkF m 252 #[own_I p1, own_I p2, own_I p3, own_I vf0, own_I 0, own_I 0, own_I vi0, own_I vs0, own_I vh0, own_I (p2 &&& (2097151 : Int32)), own_R b7, own_I 5, own_U, own_U, own_U, own_U] []))
                    try clear X20 e20 st23 f21
                    refine own_xiinc X23 hx hby at_252 rfl (l' := #[own_I p1, own_I p2, own_I p3, own_I vf0, own_I 0, own_I 0, own_I vi0, own_I vs0, own_I vh0, own_I (p2 &&& (2097151 : Int32)), own_R b7, own_I 13, own_U, own_U, own_U, own_U]) rfl ?_
                    refine own_xaload X23 hx hby at_255 rfl rfl ?_
                    refine own_xiload X23 hx hby at_257 rfl ?_
                    refine own_xiinc X23 hx hby at_259 rfl (l' := #[own_I p1, own_I p2, own_I p3, own_I vf0, own_I 0, own_I 0, own_I vi0, own_I vs0, own_I vh0, own_I (p2 &&& (2097151 : Int32)), own_R b7, own_I 14, own_U, own_U, own_U, own_U]) rfl ?_
                    have J272 : ∀ (T' : State) (locs' : List Loc) (X' : Stand p l e room_1 s m #[(.int p1), (.int p2), (.int p3)] below meth c T' locs' 1 24) (e' : T'.heap = h23) (N' : Fr n0 locs') (wq0 : Int32), (wq0 = 0 ∨ wq0 = 1) → own_Go p e below K (T'.setTop (mkF m 272 #[own_I p1, own_I p2, own_I p3, own_I vf0, own_I 0, own_I 0, own_I vi0, own_I vs0, own_I vh0, own_I (p2 &&& (2097151 : Int32)), own_R b7, own_I 14, own_U, own_U, own_U, own_U] [(.int wq0), (.int 13), (.ref b7)])) := by
                      intro T25 locs25 X25 e25 N25 wq0 hj_wq
                      refine own_xi2b X25 hx hby at_272 ?_
                      obtain ⟨cl26, Ar26, qa26, Sa26, Ma26, Ha26, Ga26⟩ := id V23
                      have hin26 : ¬ ((13 : Int32) < 0 ∨ cl26.slots.size ≤ ((13 : Int32)).toNatClampNeg) := inb_of Sa26 ⟨by decide, by decide⟩
                      obtain ⟨T27, h27, X27, e27, W27, st27⟩ := stB X25 hx hZ e25 Ar26 (j := (13 : Int32)) hin26 (g := (mkF m 273 #[own_I p1, own_I p2, own_I p3, own_I vf0, own_I 0, own_I 0, own_I vi0, own_I vs0, own_I vh0, own_I (p2 &&& (2097151 : Int32)), own_R b7, own_I 14, own_U, own_U, own_U, own_U] [(.int (wq0.toInt8.toInt32)), (.int 13), (.ref b7)])) rfl rfl (hb hby at_273)
                      have id27 : nar .byte (wq0.toInt8.toInt32) = (wq0.toInt8.toInt32) := (own_nb _)
                      rw [id27] at W27
                      have V27 : Arv Z h27 b7 k7 .byte (24 : Int32) [(.int ((0 : Int32).toInt8.toInt32)), (.int (wi0.toInt8.toInt32)), (.int ((0 : Int32).toInt8.toInt32)), (.int ((0 : Int32).toInt8.toInt32)), (.int ((p3 &&& (127 : Int32)).toInt8.toInt32)), (.int 0), (.int 0), (.int 0), (.int 0), (.int 0), (.int 0), (.int 0), (.int 0), (.int (wq0.toInt8.toInt32)), (.int 0), (.int 0), (.int 0), (.int 0), (.int 0), (.int 0), (.int 0), (.int 0), (.int 0), (.int 0)] (.int 0) := Arv.set Ar26 qa26 Sa26 Ma26 Ha26 Ga26 (own_fit id27) W27 13 rfl (Nat.le_of_ble_eq_true rfl)
                      have f28 := f24.wr W27 g_b7
                      have N27 := Fr.snoc X27 N25 g_b7
                      have Z27 := Nat.le_trans Z23 (Keep.of_wr W27).1
                      refine own_st st27 ?_
                      show own_Go p e below K (T27.setTop (mkF m 274 #[own_I p1, own_I p2, own_I p3, own_I vf0, own_I 0, own_I 0, own_I vi0, own_I vs0, own_I vh0, own_I (p2 &&& (2097151 : Int32)), own_R b7, own_I 14, own_U, own_U, own_U, own_U] []))
                      try clear X25 e25 st27 f24
                      refine own_xaload X27 hx hby at_274 rfl rfl ?_
                      refine own_xiload X27 hx hby at_276 rfl ?_
                      refine own_xiinc X27 hx hby at_278 rfl (l' := #[own_I p1, own_I p2, own_I p3, own_I vf0, own_I 0, own_I 0, own_I vi0, own_I vs0, own_I vh0, own_I (p2 &&& (2097151 : Int32)), own_R b7, own_I 15, own_U, own_U, own_U, own_U]) rfl ?_
                      have J291 : ∀ (T' : State) (locs' : List Loc) (X' : Stand p l e room_1 s m #[(.int p1), (.int p2), (.int p3)] below meth c T' locs' 1 24) (e' : T'.heap = h27) (N' : Fr n0 locs') (wh0 : Int32), (wh0 = 0 ∨ wh0 = 1) → own_Go p e below K (T'.setTop (mkF m 291 #[own_I p1, own_I p2, own_I p3, own_I vf0, own_I 0, own_I 0, own_I vi0, own_I vs0, own_I vh0, own_I (p2 &&& (2097151 : Int32)), own_R b7, own_I 15, own_U, own_U, own_U, own_U] [(.int wh0), (.int 14), (.ref b7)])) := by
                        intro T29 locs29 X29 e29 N29 wh0 hj_wh
                        refine own_xi2b X29 hx hby at_291 ?_
                        obtain ⟨cl30, Ar30, qa30, Sa30, Ma30, Ha30, Ga30⟩ := id V27
                        have hin30 : ¬ ((14 : Int32) < 0 ∨ cl30.slots.size ≤ ((14 : Int32)).toNatClampNeg) := inb_of Sa30 ⟨by decide, by decide⟩
                        obtain ⟨T31, h31, X31, e31, W31, st31⟩ := stB X29 hx hZ e29 Ar30 (j := (14 : Int32)) hin30 (g := (mkF m 292 #[own_I p1, own_I p2, own_I p3, own_I vf0, own_I 0, own_I 0, own_I vi0, own_I vs0, own_I vh0, own_I (p2 &&& (2097151 : Int32)), own_R b7, own_I 15, own_U, own_U, own_U, own_U] [(.int (wh0.toInt8.toInt32)), (.int 14), (.ref b7)])) rfl rfl (hb hby at_292)
                        have id31 : nar .byte (wh0.toInt8.toInt32) = (wh0.toInt8.toInt32) := (own_nb _)
                        rw [id31] at W31
                        have V31 : Arv Z h31 b7 k7 .byte (24 : Int32) [(.int ((0 : Int32).toInt8.toInt32)), (.int (wi0.toInt8.toInt32)), (.int ((0 : Int32).toInt8.toInt32)), (.int ((0 : Int32).toInt8.toInt32)), (.int ((p3 &&& (127 : Int32)).toInt8.toInt32)), (.int 0), (.int 0), (.int 0), (.int 0), (.int 0), (.int 0), (.int 0), (.int 0), (.int (wq0.toInt8.toInt32)), (.int (wh0.toInt8.toInt32)), (.int 0), (.int 0), (.int 0), (.int 0), (.int 0), (.int 0), (.int 0), (.int 0), (.int 0)] (.int 0) := Arv.set Ar30 qa30 Sa30 Ma30 Ha30 Ga30 (own_fit id31) W31 14 rfl (Nat.le_of_ble_eq_true rfl)
                        have f32 := f28.wr W31 g_b7
                        have N31 := Fr.snoc X31 N29 g_b7
                        have Z31 := Nat.le_trans Z27 (Keep.of_wr W31).1
                        refine own_st st31 ?_
                        show own_Go p e below K (T31.setTop (mkF m 293 #[own_I p1, own_I p2, own_I p3, own_I vf0, own_I 0, own_I 0, own_I vi0, own_I vs0, own_I vh0, own_I (p2 &&& (2097151 : Int32)), own_R b7, own_I 15, own_U, own_U, own_U, own_U] []))
                        try clear X29 e29 st31 f28
                        obtain ⟨ys, hys⟩ : ∃ z : List Int32, z = [((0 : Int32).toInt8.toInt32), (wi0.toInt8.toInt32), ((0 : Int32).toInt8.toInt32), ((0 : Int32).toInt8.toInt32), ((p3 &&& (127 : Int32)).toInt8.toInt32), (0 : Int32), (0 : Int32), (0 : Int32), (0 : Int32), (0 : Int32), (0 : Int32), (0 : Int32), (0 : Int32), (wq0.toInt8.toInt32), (wh0.toInt8.toInt32), (0 : Int32), (0 : Int32), (0 : Int32), (0 : Int32), (0 : Int32), (0 : Int32), (0 : Int32), (0 : Int32), (0 : Int32)] := ⟨_, rfl⟩
                        have V33 : Arv Z h31 b7 k7 .byte (24 : Int32) (ys.map Value.int) (.int 0) := by rw [hys]; exact V31
                        have y0 : ys.getD 0 0 = (0 : Int32) := by rw [hys]; exact (by decide : ((0 : Int32).toInt8.toInt32) = (0 : Int32))
                        have y1 : ys.getD 1 0 = (wi0.toInt8.toInt32) := by rw [hys]; rfl
                        have y2 : ys.getD 2 0 = (0 : Int32) := by rw [hys]; exact (by decide : ((0 : Int32).toInt8.toInt32) = (0 : Int32))
                        have y3 : ys.getD 3 0 = (0 : Int32) := by rw [hys]; exact (by decide : ((0 : Int32).toInt8.toInt32) = (0 : Int32))
                        have y4 : ys.getD 4 0 = ((p3 &&& (127 : Int32)).toInt8.toInt32) := by rw [hys]; rfl
                        have y5 : ys.getD 5 0 = (0 : Int32) := by rw [hys]; rfl
                        have y6 : ys.getD 6 0 = (0 : Int32) := by rw [hys]; rfl
                        have y7 : ys.getD 7 0 = (0 : Int32) := by rw [hys]; rfl
                        have y8 : ys.getD 8 0 = (0 : Int32) := by rw [hys]; rfl
                        have y9 : ys.getD 9 0 = (0 : Int32) := by rw [hys]; rfl
                        have y10 : ys.getD 10 0 = (0 : Int32) := by rw [hys]; rfl
                        have y11 : ys.getD 11 0 = (0 : Int32) := by rw [hys]; rfl
                        have y12 : ys.getD 12 0 = (0 : Int32) := by rw [hys]; rfl
                        have y13 : ys.getD 13 0 = (wq0.toInt8.toInt32) := by rw [hys]; rfl
                        have y14 : ys.getD 14 0 = (wh0.toInt8.toInt32) := by rw [hys]; rfl
                        have h1i := own_i8b hj_wi
                        have h1s := own_i8b hj_wq
                        have h1h := own_i8b hj_wh
                        refine own_xiloadN X31 hx hby at_293 rfl ?_
                        by_cases hc294 : vf0 = (0 : Int32)
                        · refine own_xifYes X31 hx hby at_294 (pc0 := 294) (pc' := 320) ((if0 _ _).trans (teq hc294).1) rfl (by decide) (by decide) ?_
                          obtain ⟨T34, h34, X34, e34, E34, A34, D34, -, st34⟩ := newO X31 hx hZ hown (own_w hw 2 rfl) (own_w hw 3 rfl) (own_w hw 4 rfl) e31 (g := (mkF m 320 #[own_I p1, own_I p2, own_I p3, own_I vf0, own_I 0, own_I 0, own_I vi0, own_I vs0, own_I vh0, own_I (p2 &&& (2097151 : Int32)), own_R b7, own_I 15, own_U, own_U, own_U, own_U] [])) rfl (hb hby at_320) (by decide) (by decide)
                          obtain ⟨b34, g34⟩ : ∃ z, z = h31.size := ⟨_, rfl⟩
                          rw [← g34] at A34 D34 st34
                          have ne_b7_b34 : b7 ≠ b34 := Nat.ne_of_lt (Nat.lt_of_lt_of_le V33.lt (Nat.le_of_eq g34.symm))
                          have g_b34 : n0 ≤ b34 := Nat.le_trans Z31 (Nat.le_of_eq g34.symm)
                          have f35 := f32.ext E34
                          have f36 := V33.ext E34
                          have f37 : Fld Z h34 b34 own_cL "lastFoldedDay" "J" (.long 0) := D34 (Or.inl (own_w hw 22 rfl)) (ty := .long) (by decide)
                          have f38 : Fld Z h34 b34 own_cL "folding" own_dF .null := D34 (Or.inr (own_w hw 32 rfl)) (ty := (.object own_cF)) (by decide)
                          have f39 : Fld Z h34 b34 own_cL "carried" own_dB .null := D34 (Or.inl (own_w hw 306 rfl)) (ty := (.object own_cB)) (by decide)
                          have Z34 := Nat.le_trans Z31 E34.1
                          refine own_st st34 ?_
                          try clear X31 e31 st34 f32 V33
                          refine own_xdup X34 hx hby at_323 rfl ?_
                          obtain ⟨_, T40, L40, Lc40, X40, hQ40, Nf40, st40⟩ := own_back (cells := 2) (slots := 46) (rc := 0) (rs := 0) N31 (X34.specialBack hx (y := own_mt1) rfl hown (mvT hZ (own_w hw 5 rfl)) (mvT hZ (own_w hw 6 rfl)) (mvT hZ (own_w hw 7 rfl)) (by decide) (backOf (W := 1) (rm1 l Z a0 hw [] b34 xx h34 n0 Z34 g_b34 A34 f39 f38 f37 f35 (by assumption)) hZ (own_w hw 7 rfl) (own_w hw 4 rfl) (by decide) (by decide)) (g := (mkF m 324 #[own_I p1, own_I p2, own_I p3, own_I vf0, own_I 0, own_I 0, own_I vi0, own_I vs0, own_I vh0, own_I (p2 &&& (2097151 : Int32)), own_R b7, own_I 15, own_U, own_U, own_U, own_U] [(.ref b34), (.ref b34)])) rfl (by rw [hml]; rfl) (Steps.refl _) (a := b34) (argsL := []) (rest := [(.ref b34)]) (lenOf pd_0_0 rfl) rfl (by show 2 * 0 + _ ≤ _; exact Nat.le_of_eq rfl) (hb hby at_324) (fun _ _ => ⟨rfl, e34, (by decide : 2 + 0 ≤ _), (by decide : 46 + 0 ≤ _)⟩))
                          obtain ⟨rfl, N40q, Kq40, p40_0, p40_1, p40_2, p40_3⟩ := hQ40
                          have N40 := Nf40 N40q
                          have f41 := f35.keep Kq40 (allS (P := fun x => n0 ≤ x) g_b34 all0)
                          have f42 := f36.keep Kq40 (ninS ne_b7_b34 nin0)
                          have Z40 := Nat.le_trans Z34 Kq40.1
                          refine own_tr st40 ?_
                          try clear X34 e34 st40 N31 N40q f35 f36
                          refine own_xastore X40 hx hby at_327 rfl (l' := #[own_I p1, own_I p2, own_I p3, own_I vf0, own_I 0, own_I 0, own_I vi0, own_I vs0, own_I vh0, own_I (p2 &&& (2097151 : Int32)), own_R b7, own_I 15, own_R b34, own_U, own_U, own_U]) rfl ?_
                          refine own_xaload X40 hx hby at_329 rfl rfl ?_
                          obtain ⟨T43, h43, X43, e43, E43, A43, D43, -, st43⟩ := newO X40 hx hZ hown (own_w hw 39 rfl) (own_w hw 40 rfl) (own_w hw 41 rfl) rfl (g := (mkF m 331 #[own_I p1, own_I p2, own_I p3, own_I vf0, own_I 0, own_I 0, own_I vi0, own_I vs0, own_I vh0, own_I (p2 &&& (2097151 : Int32)), own_R b7, own_I 15, own_R b34, own_U, own_U, own_U] [(.ref b34)])) rfl (hb hby at_331) (by decide) (by decide)
                          obtain ⟨b43, g43⟩ : ∃ z, z = T40.heap.size := ⟨_, rfl⟩
                          rw [← g43] at A43 D43 st43
                          have ne_b34_b43 : b34 ≠ b43 := Nat.ne_of_lt (Nat.lt_of_lt_of_le p40_0.lt (Nat.le_of_eq g43.symm))
                          have ne_b7_b43 : b7 ≠ b43 := Nat.ne_of_lt (Nat.lt_of_lt_of_le f42.lt (Nat.le_of_eq g43.symm))
                          have g_b43 : n0 ≤ b43 := Nat.le_trans Z40 (Nat.le_of_eq g43.symm)
                          have f44 := f41.ext E43
                          have f45 := f42.ext E43
                          have f46 := p40_0.ext E43
                          have f47 := p40_1.ext E43
                          have f48 := p40_2.ext E43
                          have f49 := p40_3.ext E43
                          have f50 : Fld Z h43 b43 own_cR "kept" "Ljava/util/List;" .null := D43 (Or.inr (own_w hw 71 rfl)) (ty := (.object "java/util/List")) (by decide)
                          have f51 : Fld Z h43 b43 own_cR "bytes" "[B" .null := D43 (Or.inr (own_w hw 73 rfl)) (ty := (.array .byte)) (by decide)
                          have f52 : Fld Z h43 b43 own_cR "position" "I" (.int 0) := D43 (Or.inl (own_w hw 75 rfl)) (ty := .int) (by decide)
                          have f53 : Fld Z h43 b43 own_cR "end" "I" (.int 0) := D43 (Or.inr (own_w hw 77 rfl)) (ty := .int) (by decide)
                          have Z43 := Nat.le_trans Z40 E43.1
                          refine own_st st43 ?_
                          try clear X40 st43 f41 f42 p40_0 p40_1 p40_2 p40_3
                          refine own_xdup X43 hx hby at_334 rfl ?_
                          refine own_xaload X43 hx hby at_335 rfl rfl ?_
                          refine own_xiconst X43 hx hby at_337 0 rfl ?_
                          refine own_xaload X43 hx hby at_338 rfl rfl ?_
                          obtain ⟨cl54, Ar54, -, Sa54, Ma54, -, -⟩ := id f45
                          refine own_st (X43.arraylength hx (own_hat e43 Ar54.1) (State.isArrayOf_alike hZ.alike Ar54.2.1) (g := (mkF m 340 #[own_I p1, own_I p2, own_I p3, own_I vf0, own_I 0, own_I 0, own_I vi0, own_I vs0, own_I vh0, own_I (p2 &&& (2097151 : Int32)), own_R b7, own_I 15, own_R b34, own_U, own_U, own_U] [(.ref b7), (.int 0), (.ref b7), (.ref b43), (.ref b43), (.ref b34)])) rfl rfl (hb hby at_340)) ?_
                          rw [len_of Sa54 Ma54]
                          obtain ⟨_, T55, L55, Lc55, X55, hQ55, Nf55, st55⟩ := own_back (cells := 3) (slots := 50) (rc := 1) (rs := 3) N40 (X43.specialBack hx (y := own_mt4) rfl hown (mvT hZ (own_w hw 42 rfl)) (mvT hZ (own_w hw 43 rfl)) (mvT hZ (own_w hw 44 rfl)) (by decide) (backOf (W := 2) (rm4 l Z a0 hw [] b43 b7 xx h43 n0 Z43 g_b43 A43 f51 f52 f53 f50 f44 (by assumption)) hZ (own_w hw 44 rfl) (own_w hw 41 rfl) (by decide) (by decide)) (g := (mkF m 341 #[own_I p1, own_I p2, own_I p3, own_I vf0, own_I 0, own_I 0, own_I vi0, own_I vs0, own_I vh0, own_I (p2 &&& (2097151 : Int32)), own_R b7, own_I 15, own_R b34, own_U, own_U, own_U] [(.int 24), (.int 0), (.ref b7), (.ref b43), (.ref b43), (.ref b34)])) rfl (by rw [hml]; rfl) (Steps.refl _) (a := b43) (argsL := [(.ref b7), (.int 0), (.int 24)]) (rest := [(.ref b43), (.ref b34)]) (lenOf pd_0_2 rfl) rfl (by show 2 * 0 + _ ≤ _; exact Nat.le_of_eq rfl) (hb hby at_341) (fun _ _ => ⟨rfl, e43, (by decide : 3 + 1 ≤ _), (by decide : 50 + 3 ≤ _)⟩))
                          obtain ⟨kp_55, rfl, N55q, Kq55, p55_0, p55_1, p55_2, p55_3, p55_4, p55_5, p55_6, p55_7, p55_8, pp55_0⟩ := hQ55
                          have N55 := Nf55 N55q
                          have f56 := f44.keep Kq55 (allS (P := fun x => n0 ≤ x) g_b43 all0)
                          have f57 := f45.keep Kq55 (ninS ne_b7_b43 nin0)
                          have f58 := f46.keep Kq55
                          have f59 := f47.keep Kq55 (ninS ne_b34_b43 nin0)
                          have f60 := f48.keep Kq55 (ninS ne_b34_b43 nin0)
                          have f61 := f49.keep Kq55 (ninS ne_b34_b43 nin0)
                          have Z55 := Nat.le_trans Z43 Kq55.1
                          refine own_tr st55 ?_
                          have g_kp_55 : n0 ≤ kp_55 := pp55_0
                          have ne_b34_kp_55 : b34 ≠ kp_55 := Exa.ne f58 p55_5 (by decide)
                          have ne_b43_kp_55 : b43 ≠ kp_55 := Exa.ne p55_0 p55_5 (by decide)
                          have ne_kp_55_b7 : kp_55 ≠ b7 := Exa.neArv p55_5 f57 (own_w hw 47 rfl)
                          try clear X43 e43 st55 N40 N55q f44 f45 f46 f47 f48 f49
                          refine own_xaconstNull X55 hx hby at_344 ?_
                          obtain ⟨cq62, kq62, qv62a, qv62b, qv62c⟩ := isOf hZ rfl f58
                          obtain ⟨_, T62, L62, Lc62, X62, hQ62, Nf62, st62⟩ := own_back (cells := 4) (slots := 53) (rc := 3) (rs := 20) N55 (X55.virtualBack hx (y := own_mt8) (z := own_mt8) hown (mvT hZ (own_w hw 78 rfl)) (mvT hZ (own_w hw 79 rfl)) (notFace_of_selects (args := #[]) (mvT hZ (own_w hw 81 rfl))) (mvT hZ (own_w hw 81 rfl)) (mvT hZ (own_w hw 80 rfl)) (by decide) (backOf (W := 0) (rm8 l Z a0 hw [] b34 b43 xx (b7) (k7) (ys) (kp_55) ((wi0.toInt8.toInt32)) (((p3 &&& (127 : Int32)).toInt8.toInt32)) ((wq0.toInt8.toInt32)) ((wh0.toInt8.toInt32)) T55.heap n0 Z55 g_b34 g_b43 g_kp_55 ne_b34_b43 (Ne.symm ne_b7_b34) (Ne.symm ne_b7_b43) f58 f59 f61 p55_0 p55_1 p55_2 p55_3 p55_4 f57 f56 (by assumption) y0 y1 y2 y3 y4 y5 y6 y7 y8 y9 y10 y11 y12 y13 y14 h1i h1s h1h (own_lb _) (own_nb _)) hZ (own_w hw 82 rfl) (own_w hw 4 rfl) (by decide) (by decide)) qv62a qv62c (g := (mkF m 345 #[own_I p1, own_I p2, own_I p3, own_I vf0, own_I 0, own_I 0, own_I vi0, own_I vs0, own_I vh0, own_I (p2 &&& (2097151 : Int32)), own_R b7, own_I 15, own_R b34, own_U, own_U, own_U] [.null, (.ref b43), (.ref b34)])) rfl (by rw [hml]; rfl) (Steps.refl _) (argsL := [(.ref b43), .null]) (rest := []) (lenOf pd_0_3 rfl) rfl (by show 2 * 0 + _ ≤ _; exact Nat.le_of_eq rfl) (hb hby at_345) (fun _ _ => ⟨rfl, rfl, (by decide : 4 + 3 ≤ _), (by decide : 53 + 20 ≤ _)⟩))
                          obtain ⟨rfl, N62q, Kq62, p62_0, p62_1, p62_2⟩ := hQ62
                          have N62 := Nf62 N62q
                          have f63 := f56.keep Kq62 (allS (P := fun x => n0 ≤ x) g_b34 (allS (P := fun x => n0 ≤ x) g_b43 (allS (P := fun x => n0 ≤ x) g_kp_55 all0)))
                          have f64 := f57.keep Kq62 (ninS ne_b7_b34 (ninS ne_b7_b43 (ninS (Ne.symm ne_kp_55_b7) nin0)))
                          have f65 := p55_0.keep Kq62
                          have f66 := p55_5.keep Kq62
                          have Z62 := Nat.le_trans Z55 Kq62.1
                          refine own_tr st62 ?_
                          try clear X55 st62 N55 N62q f56 f57 p55_0 p55_5
                          refine own_xaload X62 hx hby at_348 rfl rfl ?_
                          obtain ⟨cq67, kq67, qv67a, qv67b, qv67c⟩ := isOf hZ rfl p62_0
                          obtain ⟨_, T67, L67, Lc67, X67, hQ67, Nf67, st67⟩ := own_back (cells := 7) (slots := 73) (rc := 0) (rs := 0) N62 (X62.virtualBack hx (y := own_mt16) (z := own_mt16) hown (mvT hZ (own_w hw 136 rfl)) (mvT hZ (own_w hw 137 rfl)) (notFace_of_selects (args := #[]) (mvT hZ (own_w hw 139 rfl))) (mvT hZ (own_w hw 139 rfl)) (mvT hZ (own_w hw 138 rfl)) (by decide) (backOf (W := 0) (rm16 l Z a0 hw [] b34 T62.heap n0 Z62 p62_0 p62_1) hZ (own_w hw 140 rfl) (own_w hw 4 rfl) (by decide) (by decide)) qv67a qv67c (g := (mkF m 350 #[own_I p1, own_I p2, own_I p3, own_I vf0, own_I 0, own_I 0, own_I vi0, own_I vs0, own_I vh0, own_I (p2 &&& (2097151 : Int32)), own_R b7, own_I 15, own_R b34, own_U, own_U, own_U] [(.ref b34)])) rfl (by rw [hml]; rfl) (Steps.refl _) (argsL := []) (rest := []) (lenOf pd_0_11 rfl) rfl (by show 2 * 0 + _ ≤ _; exact Nat.le_of_eq rfl) (hb hby at_350) (fun _ _ => ⟨rfl, rfl, (by decide : 7 + 0 ≤ _), (by decide : 73 + 0 ≤ _)⟩))
                          obtain ⟨rfl, N67q, e67⟩ := hQ67
                          have N67 := Nf67 N67q
                          refine own_tr st67 ?_
                          try clear X62 st67 N62 N67q
                          refine own_xastore X67 hx hby at_353 rfl (l' := #[own_I p1, own_I p2, own_I p3, own_I vf0, own_I 0, own_I 0, own_I vi0, own_I vs0, own_I vh0, own_I (p2 &&& (2097151 : Int32)), own_R b7, own_I 15, own_R b34, own_N, own_U, own_U]) rfl ?_
                          refine own_xaload X67 hx hby at_355 rfl rfl ?_
                          obtain ⟨cq68, kq68, qv68a, qv68b, qv68c⟩ := isOf hZ e67 p62_0
                          obtain ⟨_, T68, L68, Lc68, X68, hQ68, Nf68, st68⟩ := own_back (cells := 7) (slots := 73) (rc := 0) (rs := 0) N67 (X67.virtualBack hx (y := own_mt16) (z := own_mt16) hown (mvT hZ (own_w hw 136 rfl)) (mvT hZ (own_w hw 137 rfl)) (notFace_of_selects (args := #[]) (mvT hZ (own_w hw 139 rfl))) (mvT hZ (own_w hw 139 rfl)) (mvT hZ (own_w hw 138 rfl)) (by decide) (backOf (W := 0) (rm16 l Z a0 hw [] b34 T62.heap n0 Z62 p62_0 p62_1) hZ (own_w hw 140 rfl) (own_w hw 4 rfl) (by decide) (by decide)) qv68a qv68c (g := (mkF m 357 #[own_I p1, own_I p2, own_I p3, own_I vf0, own_I 0, own_I 0, own_I vi0, own_I vs0, own_I vh0, own_I (p2 &&& (2097151 : Int32)), own_R b7, own_I 15, own_R b34, own_N, own_U, own_U] [(.ref b34)])) rfl (by rw [hml]; rfl) (Steps.refl _) (argsL := []) (rest := []) (lenOf pd_0_11 rfl) rfl (by show 2 * 0 + _ ≤ _; exact Nat.le_of_eq rfl) (hb hby at_357) (fun _ _ => ⟨rfl, e67, (by decide : 7 + 0 ≤ _), (by decide : 73 + 0 ≤ _)⟩))
                          obtain ⟨rfl, N68q, e68⟩ := hQ68
                          have N68 := Nf68 N68q
                          refine own_tr st68 ?_
                          try clear X67 e67 st68 N67 N68q
                          refine own_xastore X68 hx hby at_360 rfl (l' := #[own_I p1, own_I p2, own_I p3, own_I vf0, own_I 0, own_I 0, own_I vi0, own_I vs0, own_I vh0, own_I (p2 &&& (2097151 : Int32)), own_R b7, own_I 15, own_R b34, own_N, own_N, own_U]) rfl ?_
                          refine own_xiload X68 hx hby at_362 rfl ?_
                          refine own_xifYes X68 hx hby at_364 (pc0 := 364) (pc' := 376) ((if0 _ _).trans (teq (by decide : (0 : Int32) = (0 : Int32))).1) rfl (by decide) (by decide) ?_
                          refine own_xiconst X68 hx hby at_376 0 rfl ?_
                          refine own_xistore X68 hx hby at_377 (l' := #[own_I p1, own_I p2, own_I p3, own_I vf0, own_I 0, own_I 0, own_I vi0, own_I vs0, own_I vh0, own_I (p2 &&& (2097151 : Int32)), own_R b7, own_I 15, own_R b34, own_N, own_N, own_I 0]) rfl ?_
                          refine own_xaload X68 hx hby at_379 rfl rfl ?_
                          refine own_st (fun _ => XS.ifnullYes X68.here hx rfl (pc0 := 381) (pc' := 388) rfl (hb hby at_381) rfl (by decide) (by decide)) ?_
                          refine own_xiconst X68 hx hby at_388 0 rfl ?_
                          refine own_xiload X68 hx hby at_389 rfl ?_
                          show own_Go p e below K (T68.setTop (mkF m 391 #[own_I p1, own_I p2, own_I p3, own_I vf0, own_I 0, own_I 0, own_I vi0, own_I vs0, own_I vh0, own_I (p2 &&& (2097151 : Int32)), own_R b7, own_I 15, own_R b34, own_N, own_N, own_I 0] [(.int 0), (.int 0)]))
                          refine own_xicmpNo X68 hx hby at_391 (teq (by decide : (0 : Int32) = (0 : Int32))).2 ?_
                          refine own_xaload X68 hx hby at_394 rfl rfl ?_
                          refine own_xaload X68 hx hby at_396 rfl rfl ?_
                          refine own_st (fun _ => Jvm.RoadKit.acmp (g := (mkF m 398 #[own_I p1, own_I p2, own_I p3, own_I vf0, own_I 0, own_I 0, own_I vi0, own_I vs0, own_I vh0, own_I (p2 &&& (2097151 : Int32)), own_R b7, own_I 15, own_R b34, own_N, own_N, own_I 0] [.null, .null])) X68 hx rfl rfl rfl (pc0 := 398) (pc' := 401) (same := true) rfl (hb hby at_398) rfl (decide_eq_true rfl) (by decide) (by decide)) ?_
                          refine own_xiconst X68 hx hby at_401 1 rfl ?_
                          refine own_xgoto X68 hx hby at_402 (pc0 := 402) (pc' := 406) rfl (by decide) (by decide) ?_
                          obtain ⟨fs, hr, hrun, hended, hW, hsame⟩ := X68.leave (v := some (.int (nar .boolean (1 : Int32)))) (fun h => by rw [Bd.returns] at h; cases h)
                          refine ⟨_, retN X68 hx (t := .boolean) Bd.returns (by simp) (hb hby at_406) hr, fin _ _ _ hrun hended ?_ ⟨⟨_, rfl⟩, hW, hsame.mono (by decide) (by decide)⟩⟩
                          show Q0 Z p1 p2 p3 xx h0 n0 _ T68.heap _
                          rw [e68]
                          exact ⟨rfl, N68⟩
                        refine own_xifNo X31 hx hby at_294 ((if0 _ _).trans (feq hc294).1) ?_
                        obtain ⟨T69, h69, X69, e69, E69, A69, D69, -, st69⟩ := newO X31 hx hZ hown (own_w hw 2 rfl) (own_w hw 3 rfl) (own_w hw 4 rfl) e31 (g := (mkF m 297 #[own_I p1, own_I p2, own_I p3, own_I vf0, own_I 0, own_I 0, own_I vi0, own_I vs0, own_I vh0, own_I (p2 &&& (2097151 : Int32)), own_R b7, own_I 15, own_U, own_U, own_U, own_U] [])) rfl (hb hby at_297) (by decide) (by decide)
                        obtain ⟨b69, g69⟩ : ∃ z, z = h31.size := ⟨_, rfl⟩
                        rw [← g69] at A69 D69 st69
                        have ne_b7_b69 : b7 ≠ b69 := Nat.ne_of_lt (Nat.lt_of_lt_of_le V33.lt (Nat.le_of_eq g69.symm))
                        have g_b69 : n0 ≤ b69 := Nat.le_trans Z31 (Nat.le_of_eq g69.symm)
                        have f70 := f32.ext E69
                        have f71 := V33.ext E69
                        have f72 : Fld Z h69 b69 own_cL "lastFoldedDay" "J" (.long 0) := D69 (Or.inl (own_w hw 22 rfl)) (ty := .long) (by decide)
                        have f73 : Fld Z h69 b69 own_cL "folding" own_dF .null := D69 (Or.inr (own_w hw 32 rfl)) (ty := (.object own_cF)) (by decide)
                        have f74 : Fld Z h69 b69 own_cL "carried" own_dB .null := D69 (Or.inl (own_w hw 306 rfl)) (ty := (.object own_cB)) (by decide)
                        have Z69 := Nat.le_trans Z31 E69.1
                        refine own_st st69 ?_
                        try clear X31 e31 st69 f32 V33
                        refine own_xdup X69 hx hby at_300 rfl ?_
                        obtain ⟨T75, h75, X75, e75, E75, A75, D75, -, st75⟩ := newO X69 hx hZ hown (own_w hw 141 rfl) (own_w hw 142 rfl) (own_w hw 143 rfl) e69 (g := (mkF m 301 #[own_I p1, own_I p2, own_I p3, own_I vf0, own_I 0, own_I 0, own_I vi0, own_I vs0, own_I vh0, own_I (p2 &&& (2097151 : Int32)), own_R b7, own_I 15, own_U, own_U, own_U, own_U] [(.ref b69), (.ref b69)])) rfl (hb hby at_301) (by decide) (by decide)
                        obtain ⟨b75, g75⟩ : ∃ z, z = h69.size := ⟨_, rfl⟩
                        rw [← g75] at A75 D75 st75
                        have ne_b69_b75 : b69 ≠ b75 := Nat.ne_of_lt (Nat.lt_of_lt_of_le A69.lt (Nat.le_of_eq g75.symm))
                        have ne_b7_b75 : b7 ≠ b75 := Nat.ne_of_lt (Nat.lt_of_lt_of_le f71.lt (Nat.le_of_eq g75.symm))
                        have g_b75 : n0 ≤ b75 := Nat.le_trans Z69 (Nat.le_of_eq g75.symm)
                        have f76 := f70.ext E75
                        have f77 := f71.ext E75
                        have f78 := A69.ext E75
                        have f79 := f72.ext E75
                        have f80 := f73.ext E75
                        have f81 := f74.ext E75
                        have f82 : Fld Z h75 b75 own_cF "through" "Ljava/time/LocalDate;" .null := D75 (Or.inr (own_w hw 158 rfl)) (ty := (.object own_cD)) (by decide)
                        have f83 : Fld Z h75 b75 own_cF "funds" "Lcom/example/deferline/deferline/market/Funds;" .null := D75 (Or.inr (own_w hw 160 rfl)) (ty := (.object "com/example/deferline/deferline/market/Funds")) (by decide)
                        have f84 : Fld Z h75 b75 own_cF "calendar" "Lcom/example/deferline/deferline/market/TradingCalendar;" .null := D75 (Or.inr (own_w hw 162 rfl)) (ty := (.object "com/example/deferline/deferline/market/TradingCalendar")) (by decide)
                        have f85 : Fld Z h75 b75 own_cF "participantsKeptWhole" "Ljava/util/Set;" .null := D75 (Or.inr (own_w hw 164 rfl)) (ty := (.object "java/util/Set")) (by decide)
                        have Z75 := Nat.le_trans Z69 E75.1
                        refine own_st st75 ?_
                        try clear X69 e69 st75 f70 f71 A69 f72 f73 f74
                        refine own_xdup X75 hx hby at_304 rfl ?_
                        refine own_xaconstNull X75 hx hby at_305 ?_
                        refine own_xaconstNull X75 hx hby at_306 ?_
                        refine own_xaconstNull X75 hx hby at_307 ?_
                        obtain ⟨_, T86, L86, Lc86, X86, hQ86, Nf86, st86⟩ := own_back (cells := 3) (slots := 50) (rc := 0) (rs := 0) N31 (X75.specialBack hx (y := own_mt17) rfl hown (mvT hZ (own_w hw 144 rfl)) (mvT hZ (own_w hw 145 rfl)) (mvT hZ (own_w hw 146 rfl)) (by decide) (backOf (W := 3) (rm17 l Z a0 hw [] b75 xx h75 n0 Z75 g_b75 A75 f83 f84 f82 f85 f76 (by assumption)) hZ (own_w hw 146 rfl) (own_w hw 143 rfl) (by decide) (by decide)) (g := (mkF m 308 #[own_I p1, own_I p2, own_I p3, own_I vf0, own_I 0, own_I 0, own_I vi0, own_I vs0, own_I vh0, own_I (p2 &&& (2097151 : Int32)), own_R b7, own_I 15, own_U, own_U, own_U, own_U] [.null, .null, .null, (.ref b75), (.ref b75), (.ref b69), (.ref b69)])) rfl (by rw [hml]; rfl) (Steps.refl _) (a := b75) (argsL := [.null, .null, .null]) (rest := [(.ref b75), (.ref b69), (.ref b69)]) (lenOf pd_0_12 rfl) rfl (by show 2 * 0 + _ ≤ _; exact Nat.le_of_eq rfl) (hb hby at_308) (fun _ _ => ⟨rfl, e75, (by decide : 3 + 0 ≤ _), (by decide : 50 + 0 ≤ _)⟩))
                        obtain ⟨rfl, N86q, Kq86, p86_0, p86_1, p86_2⟩ := hQ86
                        have N86 := Nf86 N86q
                        have f87 := f76.keep Kq86 (allS (P := fun x => n0 ≤ x) g_b75 all0)
                        have f88 := f77.keep Kq86 (ninS ne_b7_b75 nin0)
                        have f89 := f78.keep Kq86
                        have f90 := f79.keep Kq86 (ninS ne_b69_b75 nin0)
                        have f91 := f80.keep Kq86 (ninS ne_b69_b75 nin0)
                        have f92 := f81.keep Kq86 (ninS ne_b69_b75 nin0)
                        have Z86 := Nat.le_trans Z75 Kq86.1
                        refine own_tr st86 ?_
                        try clear X75 e75 st86 N31 N86q f76 f77 f78 f79 f80 f81
                        refine own_xaconstNull X86 hx hby at_311 ?_
                        refine own_xaconstNull X86 hx hby at_312 ?_
                        refine own_xaconstNull X86 hx hby at_313 ?_
                        obtain ⟨_, T93, L93, Lc93, X93, hQ93, Nf93, st93⟩ := own_back (cells := 3) (slots := 50) (rc := 0) (rs := 0) N86 (X86.specialBack hx (y := own_mt2) rfl hown (mvT hZ (own_w hw 165 rfl)) (mvT hZ (own_w hw 9 rfl)) (mvT hZ (own_w hw 10 rfl)) (by decide) (backOf (W := 1) (rm2f l Z a0 hw [] b69 b75 xx T86.heap n0 Z86 g_b69 f89 f92 f91 f90 f87 (by assumption)) hZ (own_w hw 10 rfl) (own_w hw 4 rfl) (by decide) (by decide)) (g := (mkF m 314 #[own_I p1, own_I p2, own_I p3, own_I vf0, own_I 0, own_I 0, own_I vi0, own_I vs0, own_I vh0, own_I (p2 &&& (2097151 : Int32)), own_R b7, own_I 15, own_U, own_U, own_U, own_U] [.null, .null, .null, (.ref b75), (.ref b69), (.ref b69)])) rfl (by rw [hml]; rfl) (Steps.refl _) (a := b69) (argsL := [(.ref b75), .null, .null, .null]) (rest := [(.ref b69)]) (lenOf pd_0_1 rfl) rfl (by show 2 * 0 + _ ≤ _; exact Nat.le_of_eq rfl) (hb hby at_314) (fun _ _ => ⟨rfl, rfl, (by decide : 3 + 0 ≤ _), (by decide : 50 + 0 ≤ _)⟩))
                        obtain ⟨rfl, N93q, Kq93, p93_0, p93_1, p93_2, p93_3⟩ := hQ93
                        have N93 := Nf93 N93q
                        have f94 := f87.keep Kq93 (allS (P := fun x => n0 ≤ x) g_b69 all0)
                        have f95 := f88.keep Kq93 (ninS ne_b7_b69 nin0)
                        have Z93 := Nat.le_trans Z86 Kq93.1
                        refine own_tr st93 ?_
                        try clear X86 st93 N86 N93q f87 f88
                        refine own_xgoto X93 hx hby at_317 (pc0 := 317) (pc' := 327) rfl (by decide) (by decide) ?_
                        refine own_xastore X93 hx hby at_327 rfl (l' := #[own_I p1, own_I p2, own_I p3, own_I vf0, own_I 0, own_I 0, own_I vi0, own_I vs0, own_I vh0, own_I (p2 &&& (2097151 : Int32)), own_R b7, own_I 15, own_R b69, own_U, own_U, own_U]) rfl ?_
                        refine own_xaload X93 hx hby at_329 rfl rfl ?_
                        obtain ⟨T96, h96, X96, e96, E96, A96, D96, -, st96⟩ := newO X93 hx hZ hown (own_w hw 39 rfl) (own_w hw 40 rfl) (own_w hw 41 rfl) rfl (g := (mkF m 331 #[own_I p1, own_I p2, own_I p3, own_I vf0, own_I 0, own_I 0, own_I vi0, own_I vs0, own_I vh0, own_I (p2 &&& (2097151 : Int32)), own_R b7, own_I 15, own_R b69, own_U, own_U, own_U] [(.ref b69)])) rfl (hb hby at_331) (by decide) (by decide)
                        obtain ⟨b96, g96⟩ : ∃ z, z = T93.heap.size := ⟨_, rfl⟩
                        rw [← g96] at A96 D96 st96
                        have ne_b69_b96 : b69 ≠ b96 := Nat.ne_of_lt (Nat.lt_of_lt_of_le p93_0.lt (Nat.le_of_eq g96.symm))
                        have ne_b7_b96 : b7 ≠ b96 := Nat.ne_of_lt (Nat.lt_of_lt_of_le f95.lt (Nat.le_of_eq g96.symm))
                        have g_b96 : n0 ≤ b96 := Nat.le_trans Z93 (Nat.le_of_eq g96.symm)
                        have f97 := f94.ext E96
                        have f98 := f95.ext E96
                        have f99 := p93_0.ext E96
                        have f100 := p93_1.ext E96
                        have f101 := p93_2.ext E96
                        have f102 := p93_3.ext E96
                        have f103 : Fld Z h96 b96 own_cR "kept" "Ljava/util/List;" .null := D96 (Or.inr (own_w hw 71 rfl)) (ty := (.object "java/util/List")) (by decide)
                        have f104 : Fld Z h96 b96 own_cR "bytes" "[B" .null := D96 (Or.inr (own_w hw 73 rfl)) (ty := (.array .byte)) (by decide)
                        have f105 : Fld Z h96 b96 own_cR "position" "I" (.int 0) := D96 (Or.inl (own_w hw 75 rfl)) (ty := .int) (by decide)
                        have f106 : Fld Z h96 b96 own_cR "end" "I" (.int 0) := D96 (Or.inr (own_w hw 77 rfl)) (ty := .int) (by decide)
                        have Z96 := Nat.le_trans Z93 E96.1
                        refine own_st st96 ?_
                        try clear X93 st96 f94 f95 p93_0 p93_1 p93_2 p93_3
                        refine own_xdup X96 hx hby at_334 rfl ?_
                        refine own_xaload X96 hx hby at_335 rfl rfl ?_
                        refine own_xiconst X96 hx hby at_337 0 rfl ?_
                        refine own_xaload X96 hx hby at_338 rfl rfl ?_
                        obtain ⟨cl107, Ar107, -, Sa107, Ma107, -, -⟩ := id f98
                        refine own_st (X96.arraylength hx (own_hat e96 Ar107.1) (State.isArrayOf_alike hZ.alike Ar107.2.1) (g := (mkF m 340 #[own_I p1, own_I p2, own_I p3, own_I vf0, own_I 0, own_I 0, own_I vi0, own_I vs0, own_I vh0, own_I (p2 &&& (2097151 : Int32)), own_R b7, own_I 15, own_R b69, own_U, own_U, own_U] [(.ref b7), (.int 0), (.ref b7), (.ref b96), (.ref b96), (.ref b69)])) rfl rfl (hb hby at_340)) ?_
                        rw [len_of Sa107 Ma107]
                        obtain ⟨_, T108, L108, Lc108, X108, hQ108, Nf108, st108⟩ := own_back (cells := 4) (slots := 54) (rc := 1) (rs := 3) N93 (X96.specialBack hx (y := own_mt4) rfl hown (mvT hZ (own_w hw 42 rfl)) (mvT hZ (own_w hw 43 rfl)) (mvT hZ (own_w hw 44 rfl)) (by decide) (backOf (W := 2) (rm4 l Z a0 hw [] b96 b7 xx h96 n0 Z96 g_b96 A96 f104 f105 f106 f103 f97 (by assumption)) hZ (own_w hw 44 rfl) (own_w hw 41 rfl) (by decide) (by decide)) (g := (mkF m 341 #[own_I p1, own_I p2, own_I p3, own_I vf0, own_I 0, own_I 0, own_I vi0, own_I vs0, own_I vh0, own_I (p2 &&& (2097151 : Int32)), own_R b7, own_I 15, own_R b69, own_U, own_U, own_U] [(.int 24), (.int 0), (.ref b7), (.ref b96), (.ref b96), (.ref b69)])) rfl (by rw [hml]; rfl) (Steps.refl _) (a := b96) (argsL := [(.ref b7), (.int 0), (.int 24)]) (rest := [(.ref b96), (.ref b69)]) (lenOf pd_0_2 rfl) rfl (by show 2 * 0 + _ ≤ _; exact Nat.le_of_eq rfl) (hb hby at_341) (fun _ _ => ⟨rfl, e96, (by decide : 4 + 1 ≤ _), (by decide : 54 + 3 ≤ _)⟩))
                        obtain ⟨kp_108, rfl, N108q, Kq108, p108_0, p108_1, p108_2, p108_3, p108_4, p108_5, p108_6, p108_7, p108_8, pp108_0⟩ := hQ108
                        have N108 := Nf108 N108q
                        have f109 := f97.keep Kq108 (allS (P := fun x => n0 ≤ x) g_b96 all0)
                        have f110 := f98.keep Kq108 (ninS ne_b7_b96 nin0)
                        have f111 := f99.keep Kq108
                        have f112 := f100.keep Kq108 (ninS ne_b69_b96 nin0)
                        have f113 := f101.keep Kq108 (ninS ne_b69_b96 nin0)
                        have f114 := f102.keep Kq108 (ninS ne_b69_b96 nin0)
                        have Z108 := Nat.le_trans Z96 Kq108.1
                        refine own_tr st108 ?_
                        have g_kp_108 : n0 ≤ kp_108 := pp108_0
                        have ne_b69_kp_108 : b69 ≠ kp_108 := Exa.ne f111 p108_5 (by decide)
                        have ne_b96_kp_108 : b96 ≠ kp_108 := Exa.ne p108_0 p108_5 (by decide)
                        have ne_kp_108_b7 : kp_108 ≠ b7 := Exa.neArv p108_5 f110 (own_w hw 47 rfl)
                        try clear X96 e96 st108 N93 N108q f97 f98 f99 f100 f101 f102
                        refine own_xaconstNull X108 hx hby at_344 ?_
                        obtain ⟨cq115, kq115, qv115a, qv115b, qv115c⟩ := isOf hZ rfl f111
                        obtain ⟨_, T115, L115, Lc115, X115, hQ115, Nf115, st115⟩ := own_back (cells := 5) (slots := 57) (rc := 3) (rs := 20) N108 (X108.virtualBack hx (y := own_mt8) (z := own_mt8) hown (mvT hZ (own_w hw 78 rfl)) (mvT hZ (own_w hw 79 rfl)) (notFace_of_selects (args := #[]) (mvT hZ (own_w hw 81 rfl))) (mvT hZ (own_w hw 81 rfl)) (mvT hZ (own_w hw 80 rfl)) (by decide) (backOf (W := 0) (rm8 l Z a0 hw [] b69 b96 xx (b7) (k7) (ys) (kp_108) ((wi0.toInt8.toInt32)) (((p3 &&& (127 : Int32)).toInt8.toInt32)) ((wq0.toInt8.toInt32)) ((wh0.toInt8.toInt32)) T108.heap n0 Z108 g_b69 g_b96 g_kp_108 ne_b69_b96 (Ne.symm ne_b7_b69) (Ne.symm ne_b7_b96) f111 f112 f114 p108_0 p108_1 p108_2 p108_3 p108_4 f110 f109 (by assumption) y0 y1 y2 y3 y4 y5 y6 y7 y8 y9 y10 y11 y12 y13 y14 h1i h1s h1h (own_lb _) (own_nb _)) hZ (own_w hw 82 rfl) (own_w hw 4 rfl) (by decide) (by decide)) qv115a qv115c (g := (mkF m 345 #[own_I p1, own_I p2, own_I p3, own_I vf0, own_I 0, own_I 0, own_I vi0, own_I vs0, own_I vh0, own_I (p2 &&& (2097151 : Int32)), own_R b7, own_I 15, own_R b69, own_U, own_U, own_U] [.null, (.ref b96), (.ref b69)])) rfl (by rw [hml]; rfl) (Steps.refl _) (argsL := [(.ref b96), .null]) (rest := []) (lenOf pd_0_3 rfl) rfl (by show 2 * 0 + _ ≤ _; exact Nat.le_of_eq rfl) (hb hby at_345) (fun _ _ => ⟨rfl, rfl, (by decide : 5 + 3 ≤ _), (by decide : 57 + 20 ≤ _)⟩))
                        obtain ⟨rfl, N115q, Kq115, p115_0, p115_1, p115_2⟩ := hQ115
                        have N115 := Nf115 N115q
                        have f116 := f109.keep Kq115 (allS (P := fun x => n0 ≤ x) g_b69 (allS (P := fun x => n0 ≤ x) g_b96 (allS (P := fun x => n0 ≤ x) g_kp_108 all0)))
                        have f117 := f110.keep Kq115 (ninS ne_b7_b69 (ninS ne_b7_b96 (ninS (Ne.symm ne_kp_108_b7) nin0)))
                        have f118 := p108_0.keep Kq115
                        have f119 := p108_5.keep Kq115
                        have Z115 := Nat.le_trans Z108 Kq115.1
                        refine own_tr st115 ?_
                        try clear X108 st115 N108 N115q f109 f110 p108_0 p108_5
                        refine own_xaload X115 hx hby at_348 rfl rfl ?_
                        obtain ⟨cq120, kq120, qv120a, qv120b, qv120c⟩ := isOf hZ rfl p115_0
                        obtain ⟨_, T120, L120, Lc120, X120, hQ120, Nf120, st120⟩ := own_back (cells := 8) (slots := 77) (rc := 0) (rs := 0) N115 (X115.virtualBack hx (y := own_mt16) (z := own_mt16) hown (mvT hZ (own_w hw 136 rfl)) (mvT hZ (own_w hw 137 rfl)) (notFace_of_selects (args := #[]) (mvT hZ (own_w hw 139 rfl))) (mvT hZ (own_w hw 139 rfl)) (mvT hZ (own_w hw 138 rfl)) (by decide) (backOf (W := 0) (rm16 l Z a0 hw [] b69 T115.heap n0 Z115 p115_0 p115_1) hZ (own_w hw 140 rfl) (own_w hw 4 rfl) (by decide) (by decide)) qv120a qv120c (g := (mkF m 350 #[own_I p1, own_I p2, own_I p3, own_I vf0, own_I 0, own_I 0, own_I vi0, own_I vs0, own_I vh0, own_I (p2 &&& (2097151 : Int32)), own_R b7, own_I 15, own_R b69, own_U, own_U, own_U] [(.ref b69)])) rfl (by rw [hml]; rfl) (Steps.refl _) (argsL := []) (rest := []) (lenOf pd_0_11 rfl) rfl (by show 2 * 0 + _ ≤ _; exact Nat.le_of_eq rfl) (hb hby at_350) (fun _ _ => ⟨rfl, rfl, (by decide : 8 + 0 ≤ _), (by decide : 77 + 0 ≤ _)⟩))
                        obtain ⟨rfl, N120q, e120⟩ := hQ120
                        have N120 := Nf120 N120q
                        refine own_tr st120 ?_
                        try clear X115 st120 N115 N120q
                        refine own_xastore X120 hx hby at_353 rfl (l' := #[own_I p1, own_I p2, own_I p3, own_I vf0, own_I 0, own_I 0, own_I vi0, own_I vs0, own_I vh0, own_I (p2 &&& (2097151 : Int32)), own_R b7, own_I 15, own_R b69, own_N, own_U, own_U]) rfl ?_
                        refine own_xaload X120 hx hby at_355 rfl rfl ?_
                        show own_Go p e below K (T120.setTop (mkF m 357 #[own_I p1, own_I p2, own_I p3, own_I vf0, own_I 0, own_I 0, own_I vi0, own_I vs0, own_I vh0, own_I (p2 &&& (2097151 : Int32)), own_R b7, own_I 15, own_R b69, own_N, own_U, own_U] [(.ref b69)]))
                        obtain ⟨cq121, kq121, qv121a, qv121b, qv121c⟩ := isOf hZ e120 p115_0
                        obtain ⟨_, T121, L121, Lc121, X121, hQ121, Nf121, st121⟩ := own_back (cells := 8) (slots := 77) (rc := 0) (rs := 0) N120 (X120.virtualBack hx (y := own_mt16) (z := own_mt16) hown (mvT hZ (own_w hw 136 rfl)) (mvT hZ (own_w hw 137 rfl)) (notFace_of_selects (args := #[]) (mvT hZ (own_w hw 139 rfl))) (mvT hZ (own_w hw 139 rfl)) (mvT hZ (own_w hw 138 rfl)) (by decide) (backOf (W := 0) (rm16 l Z a0 hw [] b69 T115.heap n0 Z115 p115_0 p115_1) hZ (own_w hw 140 rfl) (own_w hw 4 rfl) (by decide) (by decide)) qv121a qv121c (g := (mkF m 357 #[own_I p1, own_I p2, own_I p3, own_I vf0, own_I 0, own_I 0, own_I vi0, own_I vs0, own_I vh0, own_I (p2 &&& (2097151 : Int32)), own_R b7, own_I 15, own_R b69, own_N, own_U, own_U] [(.ref b69)])) rfl (by rw [hml]; rfl) (Steps.refl _) (argsL := []) (rest := []) (lenOf pd_0_11 rfl) rfl (by show 2 * 0 + _ ≤ _; exact Nat.le_of_eq rfl) (hb hby at_357) (fun _ _ => ⟨rfl, e120, (by decide : 8 + 0 ≤ _), (by decide : 77 + 0 ≤ _)⟩))
                        obtain ⟨rfl, N121q, e121⟩ := hQ121
                        have N121 := Nf121 N121q
                        refine own_tr st121 ?_
                        try clear X120 e120 st121 N120 N121q
                        refine own_xastore X121 hx hby at_360 rfl (l' := #[own_I p1, own_I p2, own_I p3, own_I vf0, own_I 0, own_I 0, own_I vi0, own_I vs0, own_I vh0, own_I (p2 &&& (2097151 : Int32)), own_R b7, own_I 15, own_R b69, own_N, own_N, own_U]) rfl ?_
                        refine own_xiload X121 hx hby at_362 rfl ?_
                        refine own_xifYes X121 hx hby at_364 (pc0 := 364) (pc' := 376) ((if0 _ _).trans (teq (by decide : (0 : Int32) = (0 : Int32))).1) rfl (by decide) (by decide) ?_
                        refine own_xiconst X121 hx hby at_376 0 rfl ?_
                        refine own_xistore X121 hx hby at_377 (l' := #[own_I p1, own_I p2, own_I p3, own_I vf0, own_I 0, own_I 0, own_I vi0, own_I vs0, own_I vh0, own_I (p2 &&& (2097151 : Int32)), own_R b7, own_I 15, own_R b69, own_N, own_N, own_I 0]) rfl ?_
                        refine own_xaload X121 hx hby at_379 rfl rfl ?_
                        refine own_st (fun _ => XS.ifnullYes X121.here hx rfl (pc0 := 381) (pc' := 388) rfl (hb hby at_381) rfl (by decide) (by decide)) ?_
                        refine own_xiconst X121 hx hby at_388 0 rfl ?_
                        refine own_xiload X121 hx hby at_389 rfl ?_
                        refine own_xicmpNo X121 hx hby at_391 (teq (by decide : (0 : Int32) = (0 : Int32))).2 ?_
                        refine own_xaload X121 hx hby at_394 rfl rfl ?_
                        refine own_xaload X121 hx hby at_396 rfl rfl ?_
                        refine own_st (fun _ => Jvm.RoadKit.acmp (g := (mkF m 398 #[own_I p1, own_I p2, own_I p3, own_I vf0, own_I 0, own_I 0, own_I vi0, own_I vs0, own_I vh0, own_I (p2 &&& (2097151 : Int32)), own_R b7, own_I 15, own_R b69, own_N, own_N, own_I 0] [.null, .null])) X121 hx rfl rfl rfl (pc0 := 398) (pc' := 401) (same := true) rfl (hb hby at_398) rfl (decide_eq_true rfl) (by decide) (by decide)) ?_
                        refine own_xiconst X121 hx hby at_401 1 rfl ?_
                        refine own_xgoto X121 hx hby at_402 (pc0 := 402) (pc' := 406) rfl (by decide) (by decide) ?_
                        obtain ⟨fs, hr, hrun, hended, hW, hsame⟩ := X121.leave (v := some (.int (nar .boolean (1 : Int32)))) (fun h => by rw [Bd.returns] at h; cases h)
                        refine ⟨_, retN X121 hx (t := .boolean) Bd.returns (by simp) (hb hby at_406) hr, fin _ _ _ hrun hended ?_ ⟨⟨_, rfl⟩, hW, hsame.mono (by decide) (by decide)⟩⟩
                        show Q0 Z p1 p2 p3 xx h0 n0 _ T121.heap _
                        rw [e121]
                        exact ⟨rfl, N121⟩
                      refine own_xiload X27 hx hby at_281 rfl ?_
                      by_cases hc283 : vh0 = (0 : Int32)
                      · refine own_xifYes X27 hx hby at_283 (pc0 := 283) (pc' := 290) ((if0 _ _).trans (teq hc283).1) rfl (by decide) (by decide) ?_
                        refine own_xiconst X27 hx hby at_290 0 rfl ?_
                        exact J291 T27 _ X27 e27 N27 ((0 : Int32)) (Or.inl rfl)
                      refine own_xifNo X27 hx hby at_283 ((if0 _ _).trans (feq hc283).1) ?_
                      refine own_xiconst X27 hx hby at_286 1 rfl ?_
                      refine own_xgoto X27 hx hby at_287 (pc0 := 287) (pc' := 291) rfl (by decide) (by decide) ?_
                      exact J291 T27 _ X27 e27 N27 ((1 : Int32)) (Or.inr rfl)
                    refine own_xiload X23 hx hby at_262 rfl ?_
                    by_cases hc264 : vs0 = (0 : Int32)
                    · refine own_xifYes X23 hx hby at_264 (pc0 := 264) (pc' := 271) ((if0 _ _).trans (teq hc264).1) rfl (by decide) (by decide) ?_
                      refine own_xiconst X23 hx hby at_271 0 rfl ?_
                      exact J272 T23 _ X23 e23 N23 ((0 : Int32)) (Or.inl rfl)
                    refine own_xifNo X23 hx hby at_264 ((if0 _ _).trans (feq hc264).1) ?_
                    refine own_xiconst X23 hx hby at_267 1 rfl ?_
                    refine own_xgoto X23 hx hby at_268 (pc0 := 268) (pc' := 272) rfl (by decide) (by decide) ?_
                    exact J272 T23 _ X23 e23 N23 ((1 : Int32)) (Or.inr rfl)
                  show own_Go p e below K (T17.setTop (mkF m 160 #[own_I p1, own_I p2, own_I p3, own_I vf0, own_I 0, own_I 1, own_I vi0, own_I vs0, own_I vh0, own_I (p2 &&& (2097151 : Int32)), own_R b7, own_I 3, own_U, own_U, own_U, own_U] []))
                  refine own_xiload X17 hx hby at_160 rfl ?_
                  refine own_xifNo X17 hx hby at_162 ((if0 _ _).trans (feq (by decide : ¬ ((1 : Int32) = (0 : Int32)))).1) ?_
                  refine own_xaload X17 hx hby at_165 rfl rfl ?_
                  refine own_xiload X17 hx hby at_167 rfl ?_
                  refine own_xiinc X17 hx hby at_169 rfl (l' := #[own_I p1, own_I p2, own_I p3, own_I vf0, own_I 0, own_I 1, own_I vi0, own_I vs0, own_I vh0, own_I (p2 &&& (2097151 : Int32)), own_R b7, own_I 4, own_U, own_U, own_U, own_U]) rfl ?_
                  refine own_xiconst X17 hx hby at_172 2 rfl ?_
                  obtain ⟨cl122, Ar122, qa122, Sa122, Ma122, Ha122, Ga122⟩ := id V17
                  have hin122 : ¬ ((3 : Int32) < 0 ∨ cl122.slots.size ≤ ((3 : Int32)).toNatClampNeg) := inb_of Sa122 ⟨by decide, by decide⟩
                  obtain ⟨T123, h123, X123, e123, W123, st123⟩ := stB X17 hx hZ e17 Ar122 (j := (3 : Int32)) hin122 (g := (mkF m 173 #[own_I p1, own_I p2, own_I p3, own_I vf0, own_I 0, own_I 1, own_I vi0, own_I vs0, own_I vh0, own_I (p2 &&& (2097151 : Int32)), own_R b7, own_I 4, own_U, own_U, own_U, own_U] [(.int 2), (.int 3), (.ref b7)])) rfl rfl (hb hby at_173)
                  have V123 : Arv Z h123 b7 k7 .byte (24 : Int32) [(.int ((0 : Int32).toInt8.toInt32)), (.int (wi0.toInt8.toInt32)), (.int ((0 : Int32).toInt8.toInt32)), (.int ((2 : Int32).toInt8.toInt32)), (.int 0), (.int 0), (.int 0), (.int 0), (.int 0), (.int 0), (.int 0), (.int 0), (.int 0), (.int 0), (.int 0), (.int 0), (.int 0), (.int 0), (.int 0), (.int 0), (.int 0), (.int 0), (.int 0), (.int 0)] (.int 0) := Arv.set Ar122 qa122 Sa122 Ma122 Ha122 Ga122 (fits_nar_byte _) W123 3 rfl (Nat.le_of_ble_eq_true rfl)
                  have f124 := f18.wr W123 g_b7
                  have N123 := Fr.snoc X123 N17 g_b7
                  have Z123 := Nat.le_trans Z17 (Keep.of_wr W123).1
                  refine own_st st123 ?_
                  show own_Go p e below K (T123.setTop (mkF m 174 #[own_I p1, own_I p2, own_I p3, own_I vf0, own_I 0, own_I 1, own_I vi0, own_I vs0, own_I vh0, own_I (p2 &&& (2097151 : Int32)), own_R b7, own_I 4, own_U, own_U, own_U, own_U] []))
                  try clear X17 e17 st123 f18
                  refine own_xaload X123 hx hby at_174 rfl rfl ?_
                  refine own_xiload X123 hx hby at_176 rfl ?_
                  refine own_xiinc X123 hx hby at_178 rfl (l' := #[own_I p1, own_I p2, own_I p3, own_I vf0, own_I 0, own_I 1, own_I vi0, own_I vs0, own_I vh0, own_I (p2 &&& (2097151 : Int32)), own_R b7, own_I 5, own_U, own_U, own_U, own_U]) rfl ?_
                  refine own_xiload X123 hx hby at_181 rfl ?_
                  refine own_xbipush X123 hx hby at_183 127 rfl ?_
                  refine own_xiand X123 hx hby at_185 ?_
                  refine own_xsipush X123 hx hby at_186 128 rfl ?_
                  refine own_xior X123 hx hby at_189 ?_
                  refine own_xi2b X123 hx hby at_190 ?_
                  obtain ⟨cl125, Ar125, qa125, Sa125, Ma125, Ha125, Ga125⟩ := id V123
                  have hin125 : ¬ ((4 : Int32) < 0 ∨ cl125.slots.size ≤ ((4 : Int32)).toNatClampNeg) := inb_of Sa125 ⟨by decide, by decide⟩
                  obtain ⟨T126, h126, X126, e126, W126, st126⟩ := stB X123 hx hZ e123 Ar125 (j := (4 : Int32)) hin125 (g := (mkF m 191 #[own_I p1, own_I p2, own_I p3, own_I vf0, own_I 0, own_I 1, own_I vi0, own_I vs0, own_I vh0, own_I (p2 &&& (2097151 : Int32)), own_R b7, own_I 5, own_U, own_U, own_U, own_U] [(.int ((((p2 &&& (2097151 : Int32)) &&& (127 : Int32)) ||| (128 : Int32)).toInt8.toInt32)), (.int 4), (.ref b7)])) rfl rfl (hb hby at_191)
                  have id126 : nar .byte ((((p2 &&& (2097151 : Int32)) &&& (127 : Int32)) ||| (128 : Int32)).toInt8.toInt32) = ((((p2 &&& (2097151 : Int32)) &&& (127 : Int32)) ||| (128 : Int32)).toInt8.toInt32) := (own_nb _)
                  rw [id126] at W126
                  have V126 : Arv Z h126 b7 k7 .byte (24 : Int32) [(.int ((0 : Int32).toInt8.toInt32)), (.int (wi0.toInt8.toInt32)), (.int ((0 : Int32).toInt8.toInt32)), (.int ((2 : Int32).toInt8.toInt32)), (.int ((((p2 &&& (2097151 : Int32)) &&& (127 : Int32)) ||| (128 : Int32)).toInt8.toInt32)), (.int 0), (.int 0), (.int 0), (.int 0), (.int 0), (.int 0), (.int 0), (.int 0), (.int 0), (.int 0), (.int 0), (.int 0), (.int 0), (.int 0), (.int 0), (.int 0), (.int 0), (.int 0), (.int 0)] (.int 0) := Arv.set Ar125 qa125 Sa125 Ma125 Ha125 Ga125 (own_fit id126) W126 4 rfl (Nat.le_of_ble_eq_true rfl)
                  have f127 := f124.wr W126 g_b7
                  have N126 := Fr.snoc X126 N123 g_b7
                  have Z126 := Nat.le_trans Z123 (Keep.of_wr W126).1
                  refine own_st st126 ?_
                  show own_Go p e below K (T126.setTop (mkF m 192 #[own_I p1, own_I p2, own_I p3, own_I vf0, own_I 0, own_I 1, own_I vi0, own_I vs0, own_I vh0, own_I (p2 &&& (2097151 : Int32)), own_R b7, own_I 5, own_U, own_U, own_U, own_U] []))
                  try clear X123 e123 st126 f124
                  refine own_xaload X126 hx hby at_192 rfl rfl ?_
                  refine own_xiload X126 hx hby at_194 rfl ?_
                  refine own_xiinc X126 hx hby at_196 rfl (l' := #[own_I p1, own_I p2, own_I p3, own_I vf0, own_I 0, own_I 1, own_I vi0, own_I vs0, own_I vh0, own_I (p2 &&& (2097151 : Int32)), own_R b7, own_I 6, own_U, own_U, own_U, own_U]) rfl ?_
                  refine own_xiload X126 hx hby at_199 rfl ?_
                  refine own_xbipush X126 hx hby at_201 7 rfl ?_
                  refine own_xiushr X126 hx hby at_203 ?_
                  refine own_xbipush X126 hx hby at_204 127 rfl ?_
                  refine own_xiand X126 hx hby at_206 ?_
                  refine own_xsipush X126 hx hby at_207 128 rfl ?_
                  refine own_xior X126 hx hby at_210 ?_
                  refine own_xi2b X126 hx hby at_211 ?_
                  obtain ⟨cl128, Ar128, qa128, Sa128, Ma128, Ha128, Ga128⟩ := id V126
                  have hin128 : ¬ ((5 : Int32) < 0 ∨ cl128.slots.size ≤ ((5 : Int32)).toNatClampNeg) := inb_of Sa128 ⟨by decide, by decide⟩
                  obtain ⟨T129, h129, X129, e129, W129, st129⟩ := stB X126 hx hZ e126 Ar128 (j := (5 : Int32)) hin128 (g := (mkF m 212 #[own_I p1, own_I p2, own_I p3, own_I vf0, own_I 0, own_I 1, own_I vi0, own_I vs0, own_I vh0, own_I (p2 &&& (2097151 : Int32)), own_R b7, own_I 6, own_U, own_U, own_U, own_U] [(.int ((((((p2 &&& (2097151 : Int32)).toUInt32 >>> ((7 : Int32) &&& 31).toUInt32).toInt32) &&& (127 : Int32)) ||| (128 : Int32)).toInt8.toInt32)), (.int 5), (.ref b7)])) rfl rfl (hb hby at_212)
                  have id129 : nar .byte ((((((p2 &&& (2097151 : Int32)).toUInt32 >>> ((7 : Int32) &&& 31).toUInt32).toInt32) &&& (127 : Int32)) ||| (128 : Int32)).toInt8.toInt32) = ((((((p2 &&& (2097151 : Int32)).toUInt32 >>> ((7 : Int32) &&& 31).toUInt32).toInt32) &&& (127 : Int32)) ||| (128 : Int32)).toInt8.toInt32) := (own_nb _)
                  rw [id129] at W129
                  have V129 : Arv Z h129 b7 k7 .byte (24 : Int32) [(.int ((0 : Int32).toInt8.toInt32)), (.int (wi0.toInt8.toInt32)), (.int ((0 : Int32).toInt8.toInt32)), (.int ((2 : Int32).toInt8.toInt32)), (.int ((((p2 &&& (2097151 : Int32)) &&& (127 : Int32)) ||| (128 : Int32)).toInt8.toInt32)), (.int ((((((p2 &&& (2097151 : Int32)).toUInt32 >>> ((7 : Int32) &&& 31).toUInt32).toInt32) &&& (127 : Int32)) ||| (128 : Int32)).toInt8.toInt32)), (.int 0), (.int 0), (.int 0), (.int 0), (.int 0), (.int 0), (.int 0), (.int 0), (.int 0), (.int 0), (.int 0), (.int 0), (.int 0), (.int 0), (.int 0), (.int 0), (.int 0), (.int 0)] (.int 0) := Arv.set Ar128 qa128 Sa128 Ma128 Ha128 Ga128 (own_fit id129) W129 5 rfl (Nat.le_of_ble_eq_true rfl)
                  have f130 := f127.wr W129 g_b7
                  have N129 := Fr.snoc X129 N126 g_b7
                  have Z129 := Nat.le_trans Z126 (Keep.of_wr W129).1
                  refine own_st st129 ?_
                  show own_Go p e below K (T129.setTop (mkF m 213 #[own_I p1, own_I p2, own_I p3, own_I vf0, own_I 0, own_I 1, own_I vi0, own_I vs0, own_I vh0, own_I (p2 &&& (2097151 : Int32)), own_R b7, own_I 6, own_U, own_U, own_U, own_U] []))
                  try clear X126 e126 st129 f127
                  refine own_xaload X129 hx hby at_213 rfl rfl ?_
                  refine own_xiload X129 hx hby at_215 rfl ?_
                  refine own_xiinc X129 hx hby at_217 rfl (l' := #[own_I p1, own_I p2, own_I p3, own_I vf0, own_I 0, own_I 1, own_I vi0, own_I vs0, own_I vh0, own_I (p2 &&& (2097151 : Int32)), own_R b7, own_I 7, own_U, own_U, own_U, own_U]) rfl ?_
                  refine own_xiload X129 hx hby at_220 rfl ?_
                  refine own_xbipush X129 hx hby at_222 14 rfl ?_
                  refine own_xiushr X129 hx hby at_224 ?_
                  refine own_xi2b X129 hx hby at_225 ?_
                  obtain ⟨cl131, Ar131, qa131, Sa131, Ma131, Ha131, Ga131⟩ := id V129
                  have hin131 : ¬ ((6 : Int32) < 0 ∨ cl131.slots.size ≤ ((6 : Int32)).toNatClampNeg) := inb_of Sa131 ⟨by decide, by decide⟩
                  obtain ⟨T132, h132, X132, e132, W132, st132⟩ := stB X129 hx hZ e129 Ar131 (j := (6 : Int32)) hin131 (g := (mkF m 226 #[own_I p1, own_I p2, own_I p3, own_I vf0, own_I 0, own_I 1, own_I vi0, own_I vs0, own_I vh0, own_I (p2 &&& (2097151 : Int32)), own_R b7, own_I 7, own_U, own_U, own_U, own_U] [(.int ((((p2 &&& (2097151 : Int32)).toUInt32 >>> ((14 : Int32) &&& 31).toUInt32).toInt32).toInt8.toInt32)), (.int 6), (.ref b7)])) rfl rfl (hb hby at_226)
                  have id132 : nar .byte ((((p2 &&& (2097151 : Int32)).toUInt32 >>> ((14 : Int32) &&& 31).toUInt32).toInt32).toInt8.toInt32) = ((((p2 &&& (2097151 : Int32)).toUInt32 >>> ((14 : Int32) &&& 31).toUInt32).toInt32).toInt8.toInt32) := (own_nb _)
                  rw [id132] at W132
                  have V132 : Arv Z h132 b7 k7 .byte (24 : Int32) [(.int ((0 : Int32).toInt8.toInt32)), (.int (wi0.toInt8.toInt32)), (.int ((0 : Int32).toInt8.toInt32)), (.int ((2 : Int32).toInt8.toInt32)), (.int ((((p2 &&& (2097151 : Int32)) &&& (127 : Int32)) ||| (128 : Int32)).toInt8.toInt32)), (.int ((((((p2 &&& (2097151 : Int32)).toUInt32 >>> ((7 : Int32) &&& 31).toUInt32).toInt32) &&& (127 : Int32)) ||| (128 : Int32)).toInt8.toInt32)), (.int ((((p2 &&& (2097151 : Int32)).toUInt32 >>> ((14 : Int32) &&& 31).toUInt32).toInt32).toInt8.toInt32)), (.int 0), (.int 0), (.int 0), (.int 0), (.int 0), (.int 0), (.int 0), (.int 0), (.int 0), (.int 0), (.int 0), (.int 0), (.int 0), (.int 0), (.int 0), (.int 0), (.int 0)] (.int 0) := Arv.set Ar131 qa131 Sa131 Ma131 Ha131 Ga131 (own_fit id132) W132 6 rfl (Nat.le_of_ble_eq_true rfl)
                  have f133 := f130.wr W132 g_b7
                  have N132 := Fr.snoc X132 N129 g_b7
                  have Z132 := Nat.le_trans Z129 (Keep.of_wr W132).1
                  refine own_st st132 ?_
                  show own_Go p e below K (T132.setTop (mkF m 227 #[own_I p1, own_I p2, own_I p3, own_I vf0, own_I 0, own_I 1, own_I vi0, own_I vs0, own_I vh0, own_I (p2 &&& (2097151 : Int32)), own_R b7, own_I 7, own_U, own_U, own_U, own_U] []))
                  try clear X129 e129 st132 f130
                  refine own_xgoto X132 hx hby at_227 (pc0 := 227) (pc' := 239) rfl (by decide) (by decide) ?_
                  refine own_xaload X132 hx hby at_239 rfl rfl ?_
                  refine own_xiload X132 hx hby at_241 rfl ?_
                  refine own_xiinc X132 hx hby at_243 rfl (l' := #[own_I p1, own_I p2, own_I p3, own_I vf0, own_I 0, own_I 1, own_I vi0, own_I vs0, own_I vh0, own_I (p2 &&& (2097151 : Int32)), own_R b7, own_I 8, own_U, own_U, own_U, own_U]) rfl ?_
                  refine own_xiloadN X132 hx hby at_246 rfl ?_
                  refine own_xbipush X132 hx hby at_247 127 rfl ?_
                  refine own_xiand X132 hx hby at_249 ?_
                  refine own_xi2b X132 hx hby at_250 ?_
                  obtain ⟨cl134, Ar134, qa134, Sa134, Ma134, Ha134, Ga134⟩ := id V132
                  have hin134 : ¬ ((7 : Int32) < 0 ∨ cl134.slots.size ≤ ((7 : Int32)).toNatClampNeg) := inb_of Sa134 ⟨by decide, by decide⟩
                  obtain ⟨T135, h135, X135, e135, W135, st135⟩ := stB X132 hx hZ e132 Ar134 (j := (7 : Int32)) hin134 (g := (mkF m 251 #[own_I p1, own_I p2, own_I p3, own_I vf0, own_I 0, own_I 1, own_I vi0, own_I vs0, own_I vh0, own_I (p2 &&& (2097151 : Int32)), own_R b7, own_I 8, own_U, own_U, own_U, own_U] [(.int ((p3 &&& (127 : Int32)).toInt8.toInt32)), (.int 7), (.ref b7)])) rfl rfl (hb hby at_251)
                  have id135 : nar .byte ((p3 &&& (127 : Int32)).toInt8.toInt32) = ((p3 &&& (127 : Int32)).toInt8.toInt32) := (own_nb _)
                  rw [id135] at W135
                  have V135 : Arv Z h135 b7 k7 .byte (24 : Int32) [(.int ((0 : Int32).toInt8.toInt32)), (.int (wi0.toInt8.toInt32)), (.int ((0 : Int32).toInt8.toInt32)), (.int ((2 : Int32).toInt8.toInt32)), (.int ((((p2 &&& (2097151 : Int32)) &&& (127 : Int32)) ||| (128 : Int32)).toInt8.toInt32)), (.int ((((((p2 &&& (2097151 : Int32)).toUInt32 >>> ((7 : Int32) &&& 31).toUInt32).toInt32) &&& (127 : Int32)) ||| (128 : Int32)).toInt8.toInt32)), (.int ((((p2 &&& (2097151 : Int32)).toUInt32 >>> ((14 : Int32) &&& 31).toUInt32).toInt32).toInt8.toInt32)), (.int ((p3 &&& (127 : Int32)).toInt8.toInt32)), (.int 0), (.int 0), (.int 0), (.int 0), (.int 0), (.int 0), (.int 0), (.int 0), (.int 0), (.int 0), (.int 0), (.int 0), (.int 0), (.int 0), (.int 0), (.int 0)] (.int 0) := Arv.set Ar134 qa134 Sa134 Ma134 Ha134 Ga134 (own_fit id135) W135 7 rfl (Nat.le_of_ble_eq_true rfl)
                  have f136 := f133.wr W135 g_b7
                  have N135 := Fr.snoc X135 N132 g_b7
                  have Z135 := Nat.le_trans Z132 (Keep.of_wr W135).1
                  refine own_st st135 ?_
                  show own_Go p e below K (T135.setTop (mkF m 252 #[own_I p1, own_I p2, own_I p3, own_I vf0, own_I 0, own_I 1, own_I vi0, own_I vs0, own_I vh0, own_I (p2 &&& (2097151 : Int32)), own_R b7, own_I 8, own_U, own_U, own_U, own_U] []))
                  try clear X132 e132 st135 f133
                  refine own_xiinc X135 hx hby at_252 rfl (l' := #[own_I p1, own_I p2, own_I p3, own_I vf0, own_I 0, own_I 1, own_I vi0, own_I vs0, own_I vh0, own_I (p2 &&& (2097151 : Int32)), own_R b7, own_I 16, own_U, own_U, own_U, own_U]) rfl ?_
                  refine own_xaload X135 hx hby at_255 rfl rfl ?_
                  refine own_xiload X135 hx hby at_257 rfl ?_
                  refine own_xiinc X135 hx hby at_259 rfl (l' := #[own_I p1, own_I p2, own_I p3, own_I vf0, own_I 0, own_I 1, own_I vi0, own_I vs0, own_I vh0, own_I (p2 &&& (2097151 : Int32)), own_R b7, own_I 17, own_U, own_U, own_U, own_U]) rfl ?_
                  have J272 : ∀ (T' : State) (locs' : List Loc) (X' : Stand p l e room_1 s m #[(.int p1), (.int p2), (.int p3)] below meth c T' locs' 1 24) (e' : T'.heap = h135) (N' : Fr n0 locs') (wq0 : Int32), (wq0 = 0 ∨ wq0 = 1) → own_Go p e below K (T'.setTop (mkF m 272 #[own_I p1, own_I p2, own_I p3, own_I vf0, own_I 0, own_I 1, own_I vi0, own_I vs0, own_I vh0, own_I (p2 &&& (2097151 : Int32)), own_R b7, own_I 17, own_U, own_U, own_U, own_U] [(.int wq0), (.int 16), (.ref b7)])) := by
                    intro T137 locs137 X137 e137 N137 wq0 hj_wq
                    refine own_xi2b X137 hx hby at_272 ?_
                    obtain ⟨cl138, Ar138, qa138, Sa138, Ma138, Ha138, Ga138⟩ := id V135
                    have hin138 : ¬ ((16 : Int32) < 0 ∨ cl138.slots.size ≤ ((16 : Int32)).toNatClampNeg) := inb_of Sa138 ⟨by decide, by decide⟩
                    obtain ⟨T139, h139, X139, e139, W139, st139⟩ := stB X137 hx hZ e137 Ar138 (j := (16 : Int32)) hin138 (g := (mkF m 273 #[own_I p1, own_I p2, own_I p3, own_I vf0, own_I 0, own_I 1, own_I vi0, own_I vs0, own_I vh0, own_I (p2 &&& (2097151 : Int32)), own_R b7, own_I 17, own_U, own_U, own_U, own_U] [(.int (wq0.toInt8.toInt32)), (.int 16), (.ref b7)])) rfl rfl (hb hby at_273)
                    have id139 : nar .byte (wq0.toInt8.toInt32) = (wq0.toInt8.toInt32) := (own_nb _)
                    rw [id139] at W139
                    have V139 : Arv Z h139 b7 k7 .byte (24 : Int32) [(.int ((0 : Int32).toInt8.toInt32)), (.int (wi0.toInt8.toInt32)), (.int ((0 : Int32).toInt8.toInt32)), (.int ((2 : Int32).toInt8.toInt32)), (.int ((((p2 &&& (2097151 : Int32)) &&& (127 : Int32)) ||| (128 : Int32)).toInt8.toInt32)), (.int ((((((p2 &&& (2097151 : Int32)).toUInt32 >>> ((7 : Int32) &&& 31).toUInt32).toInt32) &&& (127 : Int32)) ||| (128 : Int32)).toInt8.toInt32)), (.int ((((p2 &&& (2097151 : Int32)).toUInt32 >>> ((14 : Int32) &&& 31).toUInt32).toInt32).toInt8.toInt32)), (.int ((p3 &&& (127 : Int32)).toInt8.toInt32)), (.int 0), (.int 0), (.int 0), (.int 0), (.int 0), (.int 0), (.int 0), (.int 0), (.int (wq0.toInt8.toInt32)), (.int 0), (.int 0), (.int 0), (.int 0), (.int 0), (.int 0), (.int 0)] (.int 0) := Arv.set Ar138 qa138 Sa138 Ma138 Ha138 Ga138 (own_fit id139) W139 16 rfl (Nat.le_of_ble_eq_true rfl)
                    have f140 := f136.wr W139 g_b7
                    have N139 := Fr.snoc X139 N137 g_b7
                    have Z139 := Nat.le_trans Z135 (Keep.of_wr W139).1
                    refine own_st st139 ?_
                    show own_Go p e below K (T139.setTop (mkF m 274 #[own_I p1, own_I p2, own_I p3, own_I vf0, own_I 0, own_I 1, own_I vi0, own_I vs0, own_I vh0, own_I (p2 &&& (2097151 : Int32)), own_R b7, own_I 17, own_U, own_U, own_U, own_U] []))
                    try clear X137 e137 st139 f136
                    refine own_xaload X139 hx hby at_274 rfl rfl ?_
                    refine own_xiload X139 hx hby at_276 rfl ?_
                    refine own_xiinc X139 hx hby at_278 rfl (l' := #[own_I p1, own_I p2, own_I p3, own_I vf0, own_I 0, own_I 1, own_I vi0, own_I vs0, own_I vh0, own_I (p2 &&& (2097151 : Int32)), own_R b7, own_I 18, own_U, own_U, own_U, own_U]) rfl ?_
                    have J291 : ∀ (T' : State) (locs' : List Loc) (X' : Stand p l e room_1 s m #[(.int p1), (.int p2), (.int p3)] below meth c T' locs' 1 24) (e' : T'.heap = h139) (N' : Fr n0 locs') (wh0 : Int32), (wh0 = 0 ∨ wh0 = 1) → own_Go p e below K (T'.setTop (mkF m 291 #[own_I p1, own_I p2, own_I p3, own_I vf0, own_I 0, own_I 1, own_I vi0, own_I vs0, own_I vh0, own_I (p2 &&& (2097151 : Int32)), own_R b7, own_I 18, own_U, own_U, own_U, own_U] [(.int wh0), (.int 17), (.ref b7)])) := by
                      intro T141 locs141 X141 e141 N141 wh0 hj_wh
                      refine own_xi2b X141 hx hby at_291 ?_
                      obtain ⟨cl142, Ar142, qa142, Sa142, Ma142, Ha142, Ga142⟩ := id V139
                      have hin142 : ¬ ((17 : Int32) < 0 ∨ cl142.slots.size ≤ ((17 : Int32)).toNatClampNeg) := inb_of Sa142 ⟨by decide, by decide⟩
                      obtain ⟨T143, h143, X143, e143, W143, st143⟩ := stB X141 hx hZ e141 Ar142 (j := (17 : Int32)) hin142 (g := (mkF m 292 #[own_I p1, own_I p2, own_I p3, own_I vf0, own_I 0, own_I 1, own_I vi0, own_I vs0, own_I vh0, own_I (p2 &&& (2097151 : Int32)), own_R b7, own_I 18, own_U, own_U, own_U, own_U] [(.int (wh0.toInt8.toInt32)), (.int 17), (.ref b7)])) rfl rfl (hb hby at_292)
                      have id143 : nar .byte (wh0.toInt8.toInt32) = (wh0.toInt8.toInt32) := (own_nb _)
                      rw [id143] at W143
                      have V143 : Arv Z h143 b7 k7 .byte (24 : Int32) [(.int ((0 : Int32).toInt8.toInt32)), (.int (wi0.toInt8.toInt32)), (.int ((0 : Int32).toInt8.toInt32)), (.int ((2 : Int32).toInt8.toInt32)), (.int ((((p2 &&& (2097151 : Int32)) &&& (127 : Int32)) ||| (128 : Int32)).toInt8.toInt32)), (.int ((((((p2 &&& (2097151 : Int32)).toUInt32 >>> ((7 : Int32) &&& 31).toUInt32).toInt32) &&& (127 : Int32)) ||| (128 : Int32)).toInt8.toInt32)), (.int ((((p2 &&& (2097151 : Int32)).toUInt32 >>> ((14 : Int32) &&& 31).toUInt32).toInt32).toInt8.toInt32)), (.int ((p3 &&& (127 : Int32)).toInt8.toInt32)), (.int 0), (.int 0), (.int 0), (.int 0), (.int 0), (.int 0), (.int 0), (.int 0), (.int (wq0.toInt8.toInt32)), (.int (wh0.toInt8.toInt32)), (.int 0), (.int 0), (.int 0), (.int 0), (.int 0), (.int 0)] (.int 0) := Arv.set Ar142 qa142 Sa142 Ma142 Ha142 Ga142 (own_fit id143) W143 17 rfl (Nat.le_of_ble_eq_true rfl)
                      have f144 := f140.wr W143 g_b7
                      have N143 := Fr.snoc X143 N141 g_b7
                      have Z143 := Nat.le_trans Z139 (Keep.of_wr W143).1
                      refine own_st st143 ?_
                      show own_Go p e below K (T143.setTop (mkF m 293 #[own_I p1, own_I p2, own_I p3, own_I vf0, own_I 0, own_I 1, own_I vi0, own_I vs0, own_I vh0, own_I (p2 &&& (2097151 : Int32)), own_R b7, own_I 18, own_U, own_U, own_U, own_U] []))
                      try clear X141 e141 st143 f140
                      obtain ⟨ys, hys⟩ : ∃ z : List Int32, z = [((0 : Int32).toInt8.toInt32), (wi0.toInt8.toInt32), ((0 : Int32).toInt8.toInt32), ((2 : Int32).toInt8.toInt32), ((((p2 &&& (2097151 : Int32)) &&& (127 : Int32)) ||| (128 : Int32)).toInt8.toInt32), ((((((p2 &&& (2097151 : Int32)).toUInt32 >>> ((7 : Int32) &&& 31).toUInt32).toInt32) &&& (127 : Int32)) ||| (128 : Int32)).toInt8.toInt32), ((((p2 &&& (2097151 : Int32)).toUInt32 >>> ((14 : Int32) &&& 31).toUInt32).toInt32).toInt8.toInt32), ((p3 &&& (127 : Int32)).toInt8.toInt32), (0 : Int32), (0 : Int32), (0 : Int32), (0 : Int32), (0 : Int32), (0 : Int32), (0 : Int32), (0 : Int32), (wq0.toInt8.toInt32), (wh0.toInt8.toInt32), (0 : Int32), (0 : Int32), (0 : Int32), (0 : Int32), (0 : Int32), (0 : Int32)] := ⟨_, rfl⟩
                      have V145 : Arv Z h143 b7 k7 .byte (24 : Int32) (ys.map Value.int) (.int 0) := by rw [hys]; exact V143
                      have y0 : ys.getD 0 0 = (0 : Int32) := by rw [hys]; exact (by decide : ((0 : Int32).toInt8.toInt32) = (0 : Int32))
                      have y1 : ys.getD 1 0 = (wi0.toInt8.toInt32) := by rw [hys]; rfl
                      have y2 : ys.getD 2 0 = (0 : Int32) := by rw [hys]; exact (by decide : ((0 : Int32).toInt8.toInt32) = (0 : Int32))
                      have y3 : ys.getD 3 0 = (2 : Int32) := by rw [hys]; exact (by decide : ((2 : Int32).toInt8.toInt32) = (2 : Int32))
                      have y4 : ys.getD 4 0 = ((((p2 &&& (2097151 : Int32)) &&& (127 : Int32)) ||| (128 : Int32)).toInt8.toInt32) := by rw [hys]; rfl
                      have y5 : ys.getD 5 0 = ((((((p2 &&& (2097151 : Int32)).toUInt32 >>> ((7 : Int32) &&& 31).toUInt32).toInt32) &&& (127 : Int32)) ||| (128 : Int32)).toInt8.toInt32) := by rw [hys]; rfl
                      have y6 : ys.getD 6 0 = ((((p2 &&& (2097151 : Int32)).toUInt32 >>> ((14 : Int32) &&& 31).toUInt32).toInt32).toInt8.toInt32) := by rw [hys]; rfl
                      have y7 : ys.getD 7 0 = ((p3 &&& (127 : Int32)).toInt8.toInt32) := by rw [hys]; rfl
                      have y8 : ys.getD 8 0 = (0 : Int32) := by rw [hys]; rfl
                      have y9 : ys.getD 9 0 = (0 : Int32) := by rw [hys]; rfl
                      have y10 : ys.getD 10 0 = (0 : Int32) := by rw [hys]; rfl
                      have y11 : ys.getD 11 0 = (0 : Int32) := by rw [hys]; rfl
                      have y12 : ys.getD 12 0 = (0 : Int32) := by rw [hys]; rfl
                      have y13 : ys.getD 13 0 = (0 : Int32) := by rw [hys]; rfl
                      have y14 : ys.getD 14 0 = (0 : Int32) := by rw [hys]; rfl
                      have y15 : ys.getD 15 0 = (0 : Int32) := by rw [hys]; rfl
                      have y16 : ys.getD 16 0 = (wq0.toInt8.toInt32) := by rw [hys]; rfl
                      have y17 : ys.getD 17 0 = (wh0.toInt8.toInt32) := by rw [hys]; rfl
                      have h1i := own_i8b hj_wi
                      have h1s := own_i8b hj_wq
                      have h1h := own_i8b hj_wh
                      refine own_xiloadN X143 hx hby at_293 rfl ?_
                      by_cases hc294 : vf0 = (0 : Int32)
                      · refine own_xifYes X143 hx hby at_294 (pc0 := 294) (pc' := 320) ((if0 _ _).trans (teq hc294).1) rfl (by decide) (by decide) ?_
                        obtain ⟨T146, h146, X146, e146, E146, A146, D146, -, st146⟩ := newO X143 hx hZ hown (own_w hw 2 rfl) (own_w hw 3 rfl) (own_w hw 4 rfl) e143 (g := (mkF m 320 #[own_I p1, own_I p2, own_I p3, own_I vf0, own_I 0, own_I 1, own_I vi0, own_I vs0, own_I vh0, own_I (p2 &&& (2097151 : Int32)), own_R b7, own_I 18, own_U, own_U, own_U, own_U] [])) rfl (hb hby at_320) (by decide) (by decide)
                        obtain ⟨b146, g146⟩ : ∃ z, z = h143.size := ⟨_, rfl⟩
                        rw [← g146] at A146 D146 st146
                        have ne_b7_b146 : b7 ≠ b146 := Nat.ne_of_lt (Nat.lt_of_lt_of_le V145.lt (Nat.le_of_eq g146.symm))
                        have g_b146 : n0 ≤ b146 := Nat.le_trans Z143 (Nat.le_of_eq g146.symm)
                        have f147 := f144.ext E146
                        have f148 := V145.ext E146
                        have f149 : Fld Z h146 b146 own_cL "lastFoldedDay" "J" (.long 0) := D146 (Or.inl (own_w hw 22 rfl)) (ty := .long) (by decide)
                        have f150 : Fld Z h146 b146 own_cL "folding" own_dF .null := D146 (Or.inr (own_w hw 32 rfl)) (ty := (.object own_cF)) (by decide)
                        have f151 : Fld Z h146 b146 own_cL "carried" own_dB .null := D146 (Or.inl (own_w hw 306 rfl)) (ty := (.object own_cB)) (by decide)
                        have Z146 := Nat.le_trans Z143 E146.1
                        refine own_st st146 ?_
                        try clear X143 e143 st146 f144 V145
                        refine own_xdup X146 hx hby at_323 rfl ?_
                        obtain ⟨_, T152, L152, Lc152, X152, hQ152, Nf152, st152⟩ := own_back (cells := 2) (slots := 46) (rc := 0) (rs := 0) N143 (X146.specialBack hx (y := own_mt1) rfl hown (mvT hZ (own_w hw 5 rfl)) (mvT hZ (own_w hw 6 rfl)) (mvT hZ (own_w hw 7 rfl)) (by decide) (backOf (W := 1) (rm1 l Z a0 hw [] b146 xx h146 n0 Z146 g_b146 A146 f151 f150 f149 f147 (by assumption)) hZ (own_w hw 7 rfl) (own_w hw 4 rfl) (by decide) (by decide)) (g := (mkF m 324 #[own_I p1, own_I p2, own_I p3, own_I vf0, own_I 0, own_I 1, own_I vi0, own_I vs0, own_I vh0, own_I (p2 &&& (2097151 : Int32)), own_R b7, own_I 18, own_U, own_U, own_U, own_U] [(.ref b146), (.ref b146)])) rfl (by rw [hml]; rfl) (Steps.refl _) (a := b146) (argsL := []) (rest := [(.ref b146)]) (lenOf pd_0_0 rfl) rfl (by show 2 * 0 + _ ≤ _; exact Nat.le_of_eq rfl) (hb hby at_324) (fun _ _ => ⟨rfl, e146, (by decide : 2 + 0 ≤ _), (by decide : 46 + 0 ≤ _)⟩))
                        obtain ⟨rfl, N152q, Kq152, p152_0, p152_1, p152_2, p152_3⟩ := hQ152
                        have N152 := Nf152 N152q
                        have f153 := f147.keep Kq152 (allS (P := fun x => n0 ≤ x) g_b146 all0)
                        have f154 := f148.keep Kq152 (ninS ne_b7_b146 nin0)
                        have Z152 := Nat.le_trans Z146 Kq152.1
                        refine own_tr st152 ?_
                        try clear X146 e146 st152 N143 N152q f147 f148
                        refine own_xastore X152 hx hby at_327 rfl (l' := #[own_I p1, own_I p2, own_I p3, own_I vf0, own_I 0, own_I 1, own_I vi0, own_I vs0, own_I vh0, own_I (p2 &&& (2097151 : Int32)), own_R b7, own_I 18, own_R b146, own_U, own_U, own_U]) rfl ?_
                        refine own_xaload X152 hx hby at_329 rfl rfl ?_
                        obtain ⟨T155, h155, X155, e155, E155, A155, D155, -, st155⟩ := newO X152 hx hZ hown (own_w hw 39 rfl) (own_w hw 40 rfl) (own_w hw 41 rfl) rfl (g := (mkF m 331 #[own_I p1, own_I p2, own_I p3, own_I vf0, own_I 0, own_I 1, own_I vi0, own_I vs0, own_I vh0, own_I (p2 &&& (2097151 : Int32)), own_R b7, own_I 18, own_R b146, own_U, own_U, own_U] [(.ref b146)])) rfl (hb hby at_331) (by decide) (by decide)
                        obtain ⟨b155, g155⟩ : ∃ z, z = T152.heap.size := ⟨_, rfl⟩
                        rw [← g155] at A155 D155 st155
                        have ne_b146_b155 : b146 ≠ b155 := Nat.ne_of_lt (Nat.lt_of_lt_of_le p152_0.lt (Nat.le_of_eq g155.symm))
                        have ne_b7_b155 : b7 ≠ b155 := Nat.ne_of_lt (Nat.lt_of_lt_of_le f154.lt (Nat.le_of_eq g155.symm))
                        have g_b155 : n0 ≤ b155 := Nat.le_trans Z152 (Nat.le_of_eq g155.symm)
                        have f156 := f153.ext E155
                        have f157 := f154.ext E155
                        have f158 := p152_0.ext E155
                        have f159 := p152_1.ext E155
                        have f160 := p152_2.ext E155
                        have f161 := p152_3.ext E155
                        have f162 : Fld Z h155 b155 own_cR "kept" "Ljava/util/List;" .null := D155 (Or.inr (own_w hw 71 rfl)) (ty := (.object "java/util/List")) (by decide)
                        have f163 : Fld Z h155 b155 own_cR "bytes" "[B" .null := D155 (Or.inr (own_w hw 73 rfl)) (ty := (.array .byte)) (by decide)
                        have f164 : Fld Z h155 b155 own_cR "position" "I" (.int 0) := D155 (Or.inl (own_w hw 75 rfl)) (ty := .int) (by decide)
                        have f165 : Fld Z h155 b155 own_cR "end" "I" (.int 0) := D155 (Or.inr (own_w hw 77 rfl)) (ty := .int) (by decide)
                        have Z155 := Nat.le_trans Z152 E155.1
                        refine own_st st155 ?_
                        try clear X152 st155 f153 f154 p152_0 p152_1 p152_2 p152_3
                        refine own_xdup X155 hx hby at_334 rfl ?_
                        refine own_xaload X155 hx hby at_335 rfl rfl ?_
                        refine own_xiconst X155 hx hby at_337 0 rfl ?_
                        refine own_xaload X155 hx hby at_338 rfl rfl ?_
                        obtain ⟨cl166, Ar166, -, Sa166, Ma166, -, -⟩ := id f157
                        refine own_st (X155.arraylength hx (own_hat e155 Ar166.1) (State.isArrayOf_alike hZ.alike Ar166.2.1) (g := (mkF m 340 #[own_I p1, own_I p2, own_I p3, own_I vf0, own_I 0, own_I 1, own_I vi0, own_I vs0, own_I vh0, own_I (p2 &&& (2097151 : Int32)), own_R b7, own_I 18, own_R b146, own_U, own_U, own_U] [(.ref b7), (.int 0), (.ref b7), (.ref b155), (.ref b155), (.ref b146)])) rfl rfl (hb hby at_340)) ?_
                        rw [len_of Sa166 Ma166]
                        obtain ⟨_, T167, L167, Lc167, X167, hQ167, Nf167, st167⟩ := own_back (cells := 3) (slots := 50) (rc := 1) (rs := 3) N152 (X155.specialBack hx (y := own_mt4) rfl hown (mvT hZ (own_w hw 42 rfl)) (mvT hZ (own_w hw 43 rfl)) (mvT hZ (own_w hw 44 rfl)) (by decide) (backOf (W := 2) (rm4 l Z a0 hw [] b155 b7 xx h155 n0 Z155 g_b155 A155 f163 f164 f165 f162 f156 (by assumption)) hZ (own_w hw 44 rfl) (own_w hw 41 rfl) (by decide) (by decide)) (g := (mkF m 341 #[own_I p1, own_I p2, own_I p3, own_I vf0, own_I 0, own_I 1, own_I vi0, own_I vs0, own_I vh0, own_I (p2 &&& (2097151 : Int32)), own_R b7, own_I 18, own_R b146, own_U, own_U, own_U] [(.int 24), (.int 0), (.ref b7), (.ref b155), (.ref b155), (.ref b146)])) rfl (by rw [hml]; rfl) (Steps.refl _) (a := b155) (argsL := [(.ref b7), (.int 0), (.int 24)]) (rest := [(.ref b155), (.ref b146)]) (lenOf pd_0_2 rfl) rfl (by show 2 * 0 + _ ≤ _; exact Nat.le_of_eq rfl) (hb hby at_341) (fun _ _ => ⟨rfl, e155, (by decide : 3 + 1 ≤ _), (by decide : 50 + 3 ≤ _)⟩))
                        obtain ⟨kp_167, rfl, N167q, Kq167, p167_0, p167_1, p167_2, p167_3, p167_4, p167_5, p167_6, p167_7, p167_8, pp167_0⟩ := hQ167
                        have N167 := Nf167 N167q
                        have f168 := f156.keep Kq167 (allS (P := fun x => n0 ≤ x) g_b155 all0)
                        have f169 := f157.keep Kq167 (ninS ne_b7_b155 nin0)
                        have f170 := f158.keep Kq167
                        have f171 := f159.keep Kq167 (ninS ne_b146_b155 nin0)
                        have f172 := f160.keep Kq167 (ninS ne_b146_b155 nin0)
                        have f173 := f161.keep Kq167 (ninS ne_b146_b155 nin0)
                        have Z167 := Nat.le_trans Z155 Kq167.1
                        refine own_tr st167 ?_
                        have g_kp_167 : n0 ≤ kp_167 := pp167_0
                        have ne_b146_kp_167 : b146 ≠ kp_167 := Exa.ne f170 p167_5 (by decide)
                        have ne_b155_kp_167 : b155 ≠ kp_167 := Exa.ne p167_0 p167_5 (by decide)
                        have ne_kp_167_b7 : kp_167 ≠ b7 := Exa.neArv p167_5 f169 (own_w hw 47 rfl)
                        try clear X155 e155 st167 N152 N167q f156 f157 f158 f159 f160 f161
                        refine own_xaconstNull X167 hx hby at_344 ?_
                        obtain ⟨cq174, kq174, qv174a, qv174b, qv174c⟩ := isOf hZ rfl f170
                        obtain ⟨_, T174, L174, Lc174, X174, hQ174, Nf174, st174⟩ := own_back (cells := 4) (slots := 53) (rc := 3) (rs := 20) N167 (X167.virtualBack hx (y := own_mt8) (z := own_mt8) hown (mvT hZ (own_w hw 78 rfl)) (mvT hZ (own_w hw 79 rfl)) (notFace_of_selects (args := #[]) (mvT hZ (own_w hw 81 rfl))) (mvT hZ (own_w hw 81 rfl)) (mvT hZ (own_w hw 80 rfl)) (by decide) (backOf (W := 0) (rm8d l Z a0 hw [] b146 b155 xx (b7) (k7) (ys) (kp_167) ((wi0.toInt8.toInt32)) (((p3 &&& (127 : Int32)).toInt8.toInt32)) ((wq0.toInt8.toInt32)) ((wh0.toInt8.toInt32)) (((((p2 &&& (2097151 : Int32)) &&& (127 : Int32)) ||| (128 : Int32)).toInt8.toInt32)) (((((((p2 &&& (2097151 : Int32)).toUInt32 >>> ((7 : Int32) &&& 31).toUInt32).toInt32) &&& (127 : Int32)) ||| (128 : Int32)).toInt8.toInt32)) (((((p2 &&& (2097151 : Int32)).toUInt32 >>> ((14 : Int32) &&& 31).toUInt32).toInt32).toInt8.toInt32)) T167.heap n0 Z167 g_b146 g_b155 g_kp_167 ne_b146_b155 (Ne.symm ne_b7_b146) (Ne.symm ne_b7_b155) ne_b146_kp_167 ne_b155_kp_167 ne_kp_167_b7 f170 f171 f173 p167_0 p167_1 p167_2 p167_3 p167_4 f169 f168 p167_5 p167_6 p167_7 p167_8 (by assumption) y0 y1 y2 y3 y4 y5 y6 y7 y8 y9 y10 y11 y12 y13 y14 y15 y16 y17 h1i h1s h1h (own_lb _) (own_nb _) (own_nb _) (own_nb _) (own_nb _) (own_b0 _) (own_b0 _) (own_b2 _)) hZ (own_w hw 82 rfl) (own_w hw 4 rfl) (by decide) (by decide)) qv174a qv174c (g := (mkF m 345 #[own_I p1, own_I p2, own_I p3, own_I vf0, own_I 0, own_I 1, own_I vi0, own_I vs0, own_I vh0, own_I (p2 &&& (2097151 : Int32)), own_R b7, own_I 18, own_R b146, own_U, own_U, own_U] [.null, (.ref b155), (.ref b146)])) rfl (by rw [hml]; rfl) (Steps.refl _) (argsL := [(.ref b155), .null]) (rest := []) (lenOf pd_0_3 rfl) rfl (by show 2 * 0 + _ ≤ _; exact Nat.le_of_eq rfl) (hb hby at_345) (fun _ _ => ⟨rfl, rfl, (by decide : 4 + 3 ≤ _), (by decide : 53 + 20 ≤ _)⟩))
                        obtain ⟨ld_174, rfl, N174q, Kq174, p174_0, p174_1, p174_2, pp174_0⟩ := hQ174
                        have N174 := Nf174 N174q
                        have f175 := f168.keep Kq174 (allS (P := fun x => n0 ≤ x) g_b146 (allS (P := fun x => n0 ≤ x) g_b155 (allS (P := fun x => n0 ≤ x) g_kp_167 all0)))
                        have f176 := f169.keep Kq174 (ninS ne_b7_b146 (ninS ne_b7_b155 (ninS (Ne.symm ne_kp_167_b7) nin0)))
                        have f177 := p167_0.keep Kq174
                        have f178 := p167_5.keep Kq174
                        have Z174 := Nat.le_trans Z167 Kq174.1
                        refine own_tr st174 ?_
                        try clear X167 st174 N167 N174q f168 f169 p167_0 p167_5
                        refine own_xaload X174 hx hby at_348 rfl rfl ?_
                        obtain ⟨cq179, kq179, qv179a, qv179b, qv179c⟩ := isOf hZ rfl p174_0
                        obtain ⟨_, T179, L179, Lc179, X179, hQ179, Nf179, st179⟩ := own_back (cells := 7) (slots := 73) (rc := 0) (rs := 0) N174 (X174.virtualBack hx (y := own_mt16) (z := own_mt16) hown (mvT hZ (own_w hw 136 rfl)) (mvT hZ (own_w hw 137 rfl)) (notFace_of_selects (args := #[]) (mvT hZ (own_w hw 139 rfl))) (mvT hZ (own_w hw 139 rfl)) (mvT hZ (own_w hw 138 rfl)) (by decide) (backOf (W := 0) (rm16n l Z a0 hw [] b146 (ld_174) T174.heap n0 Z174 p174_0 p174_1 p174_2 pp174_0) hZ (own_w hw 140 rfl) (own_w hw 4 rfl) (by decide) (by decide)) qv179a qv179c (g := (mkF m 350 #[own_I p1, own_I p2, own_I p3, own_I vf0, own_I 0, own_I 1, own_I vi0, own_I vs0, own_I vh0, own_I (p2 &&& (2097151 : Int32)), own_R b7, own_I 18, own_R b146, own_U, own_U, own_U] [(.ref b146)])) rfl (by rw [hml]; rfl) (Steps.refl _) (argsL := []) (rest := []) (lenOf pd_0_11 rfl) rfl (by show 2 * 0 + _ ≤ _; exact Nat.le_of_eq rfl) (hb hby at_350) (fun _ _ => ⟨rfl, rfl, (by decide : 7 + 0 ≤ _), (by decide : 73 + 0 ≤ _)⟩))
                        obtain ⟨rfl, N179q, e179⟩ := hQ179
                        have N179 := Nf179 N179q
                        refine own_tr st179 ?_
                        try clear X174 st179 N174 N179q
                        refine own_xastore X179 hx hby at_353 rfl (l' := #[own_I p1, own_I p2, own_I p3, own_I vf0, own_I 0, own_I 1, own_I vi0, own_I vs0, own_I vh0, own_I (p2 &&& (2097151 : Int32)), own_R b7, own_I 18, own_R b146, own_N, own_U, own_U]) rfl ?_
                        refine own_xaload X179 hx hby at_355 rfl rfl ?_
                        obtain ⟨cq180, kq180, qv180a, qv180b, qv180c⟩ := isOf hZ e179 p174_0
                        obtain ⟨_, T180, L180, Lc180, X180, hQ180, Nf180, st180⟩ := own_back (cells := 7) (slots := 73) (rc := 0) (rs := 0) N179 (X179.virtualBack hx (y := own_mt16) (z := own_mt16) hown (mvT hZ (own_w hw 136 rfl)) (mvT hZ (own_w hw 137 rfl)) (notFace_of_selects (args := #[]) (mvT hZ (own_w hw 139 rfl))) (mvT hZ (own_w hw 139 rfl)) (mvT hZ (own_w hw 138 rfl)) (by decide) (backOf (W := 0) (rm16n l Z a0 hw [] b146 (ld_174) T174.heap n0 Z174 p174_0 p174_1 p174_2 pp174_0) hZ (own_w hw 140 rfl) (own_w hw 4 rfl) (by decide) (by decide)) qv180a qv180c (g := (mkF m 357 #[own_I p1, own_I p2, own_I p3, own_I vf0, own_I 0, own_I 1, own_I vi0, own_I vs0, own_I vh0, own_I (p2 &&& (2097151 : Int32)), own_R b7, own_I 18, own_R b146, own_N, own_U, own_U] [(.ref b146)])) rfl (by rw [hml]; rfl) (Steps.refl _) (argsL := []) (rest := []) (lenOf pd_0_11 rfl) rfl (by show 2 * 0 + _ ≤ _; exact Nat.le_of_eq rfl) (hb hby at_357) (fun _ _ => ⟨rfl, e179, (by decide : 7 + 0 ≤ _), (by decide : 73 + 0 ≤ _)⟩))
                        obtain ⟨rfl, N180q, e180⟩ := hQ180
                        have N180 := Nf180 N180q
                        refine own_tr st180 ?_
                        try clear X179 e179 st180 N179 N180q
                        refine own_xastore X180 hx hby at_360 rfl (l' := #[own_I p1, own_I p2, own_I p3, own_I vf0, own_I 0, own_I 1, own_I vi0, own_I vs0, own_I vh0, own_I (p2 &&& (2097151 : Int32)), own_R b7, own_I 18, own_R b146, own_N, own_N, own_U]) rfl ?_
                        refine own_xiload X180 hx hby at_362 rfl ?_
                        refine own_xifYes X180 hx hby at_364 (pc0 := 364) (pc' := 376) ((if0 _ _).trans (teq (by decide : (0 : Int32) = (0 : Int32))).1) rfl (by decide) (by decide) ?_
                        refine own_xiconst X180 hx hby at_376 0 rfl ?_
                        refine own_xistore X180 hx hby at_377 (l' := #[own_I p1, own_I p2, own_I p3, own_I vf0, own_I 0, own_I 1, own_I vi0, own_I vs0, own_I vh0, own_I (p2 &&& (2097151 : Int32)), own_R b7, own_I 18, own_R b146, own_N, own_N, own_I 0]) rfl ?_
                        refine own_xaload X180 hx hby at_379 rfl rfl ?_
                        refine own_st (fun _ => XS.ifnullYes X180.here hx rfl (pc0 := 381) (pc' := 388) rfl (hb hby at_381) rfl (by decide) (by decide)) ?_
                        refine own_xiconst X180 hx hby at_388 0 rfl ?_
                        refine own_xiload X180 hx hby at_389 rfl ?_
                        show own_Go p e below K (T180.setTop (mkF m 391 #[own_I p1, own_I p2, own_I p3, own_I vf0, own_I 0, own_I 1, own_I vi0, own_I vs0, own_I vh0, own_I (p2 &&& (2097151 : Int32)), own_R b7, own_I 18, own_R b146, own_N, own_N, own_I 0] [(.int 0), (.int 0)]))
                        refine own_xicmpNo X180 hx hby at_391 (teq (by decide : (0 : Int32) = (0 : Int32))).2 ?_
                        refine own_xaload X180 hx hby at_394 rfl rfl ?_
                        refine own_xaload X180 hx hby at_396 rfl rfl ?_
                        refine own_st (fun _ => Jvm.RoadKit.acmp (g := (mkF m 398 #[own_I p1, own_I p2, own_I p3, own_I vf0, own_I 0, own_I 1, own_I vi0, own_I vs0, own_I vh0, own_I (p2 &&& (2097151 : Int32)), own_R b7, own_I 18, own_R b146, own_N, own_N, own_I 0] [.null, .null])) X180 hx rfl rfl rfl (pc0 := 398) (pc' := 401) (same := true) rfl (hb hby at_398) rfl (decide_eq_true rfl) (by decide) (by decide)) ?_
                        refine own_xiconst X180 hx hby at_401 1 rfl ?_
                        refine own_xgoto X180 hx hby at_402 (pc0 := 402) (pc' := 406) rfl (by decide) (by decide) ?_
                        obtain ⟨fs, hr, hrun, hended, hW, hsame⟩ := X180.leave (v := some (.int (nar .boolean (1 : Int32)))) (fun h => by rw [Bd.returns] at h; cases h)
                        refine ⟨_, retN X180 hx (t := .boolean) Bd.returns (by simp) (hb hby at_406) hr, fin _ _ _ hrun hended ?_ ⟨⟨_, rfl⟩, hW, hsame.mono (by decide) (by decide)⟩⟩
                        show Q0 Z p1 p2 p3 xx h0 n0 _ T180.heap _
                        rw [e180]
                        exact ⟨rfl, N180⟩
                      refine own_xifNo X143 hx hby at_294 ((if0 _ _).trans (feq hc294).1) ?_
                      obtain ⟨T181, h181, X181, e181, E181, A181, D181, -, st181⟩ := newO X143 hx hZ hown (own_w hw 2 rfl) (own_w hw 3 rfl) (own_w hw 4 rfl) e143 (g := (mkF m 297 #[own_I p1, own_I p2, own_I p3, own_I vf0, own_I 0, own_I 1, own_I vi0, own_I vs0, own_I vh0, own_I (p2 &&& (2097151 : Int32)), own_R b7, own_I 18, own_U, own_U, own_U, own_U] [])) rfl (hb hby at_297) (by decide) (by decide)
                      obtain ⟨b181, g181⟩ : ∃ z, z = h143.size := ⟨_, rfl⟩
                      rw [← g181] at A181 D181 st181
                      have ne_b7_b181 : b7 ≠ b181 := Nat.ne_of_lt (Nat.lt_of_lt_of_le V145.lt (Nat.le_of_eq g181.symm))
                      have g_b181 : n0 ≤ b181 := Nat.le_trans Z143 (Nat.le_of_eq g181.symm)
                      have f182 := f144.ext E181
                      have f183 := V145.ext E181
                      have f184 : Fld Z h181 b181 own_cL "lastFoldedDay" "J" (.long 0) := D181 (Or.inl (own_w hw 22 rfl)) (ty := .long) (by decide)
                      have f185 : Fld Z h181 b181 own_cL "folding" own_dF .null := D181 (Or.inr (own_w hw 32 rfl)) (ty := (.object own_cF)) (by decide)
                      have f186 : Fld Z h181 b181 own_cL "carried" own_dB .null := D181 (Or.inl (own_w hw 306 rfl)) (ty := (.object own_cB)) (by decide)
                      have Z181 := Nat.le_trans Z143 E181.1
                      refine own_st st181 ?_
                      try clear X143 e143 st181 f144 V145
                      refine own_xdup X181 hx hby at_300 rfl ?_
                      obtain ⟨T187, h187, X187, e187, E187, A187, D187, -, st187⟩ := newO X181 hx hZ hown (own_w hw 141 rfl) (own_w hw 142 rfl) (own_w hw 143 rfl) e181 (g := (mkF m 301 #[own_I p1, own_I p2, own_I p3, own_I vf0, own_I 0, own_I 1, own_I vi0, own_I vs0, own_I vh0, own_I (p2 &&& (2097151 : Int32)), own_R b7, own_I 18, own_U, own_U, own_U, own_U] [(.ref b181), (.ref b181)])) rfl (hb hby at_301) (by decide) (by decide)
                      obtain ⟨b187, g187⟩ : ∃ z, z = h181.size := ⟨_, rfl⟩
                      rw [← g187] at A187 D187 st187
                      have ne_b181_b187 : b181 ≠ b187 := Nat.ne_of_lt (Nat.lt_of_lt_of_le A181.lt (Nat.le_of_eq g187.symm))
                      have ne_b7_b187 : b7 ≠ b187 := Nat.ne_of_lt (Nat.lt_of_lt_of_le f183.lt (Nat.le_of_eq g187.symm))
                      have g_b187 : n0 ≤ b187 := Nat.le_trans Z181 (Nat.le_of_eq g187.symm)
                      have f188 := f182.ext E187
                      have f189 := f183.ext E187
                      have f190 := A181.ext E187
                      have f191 := f184.ext E187
                      have f192 := f185.ext E187
                      have f193 := f186.ext E187
                      have f194 : Fld Z h187 b187 own_cF "through" "Ljava/time/LocalDate;" .null := D187 (Or.inr (own_w hw 158 rfl)) (ty := (.object own_cD)) (by decide)
                      have f195 : Fld Z h187 b187 own_cF "funds" "Lcom/example/deferline/deferline/market/Funds;" .null := D187 (Or.inr (own_w hw 160 rfl)) (ty := (.object "com/example/deferline/deferline/market/Funds")) (by decide)
                      have f196 : Fld Z h187 b187 own_cF "calendar" "Lcom/example/deferline/deferline/market/TradingCalendar;" .null := D187 (Or.inr (own_w hw 162 rfl)) (ty := (.object "com/example/deferline/deferline/market/TradingCalendar")) (by decide)
                      have f197 : Fld Z h187 b187 own_cF "participantsKeptWhole" "Ljava/util/Set;" .null := D187 (Or.inr (own_w hw 164 rfl)) (ty := (.object "java/util/Set")) (by decide)
                      have Z187 := Nat.le_trans Z181 E187.1
                      refine own_st st187 ?_
                      try clear X181 e181 st187 f182 f183 A181 f184 f185 f186
                      refine own_xdup X187 hx hby at_304 rfl ?_
                      refine own_xaconstNull X187 hx hby at_305 ?_
                      refine own_xaconstNull X187 hx hby at_306 ?_
                      refine own_xaconstNull X187 hx hby at_307 ?_
                      obtain ⟨_, T198, L198, Lc198, X198, hQ198, Nf198, st198⟩ := own_back (cells := 3) (slots := 50) (rc := 0) (rs := 0) N143 (X187.specialBack hx (y := own_mt17) rfl hown (mvT hZ (own_w hw 144 rfl)) (mvT hZ (own_w hw 145 rfl)) (mvT hZ (own_w hw 146 rfl)) (by decide) (backOf (W := 3) (rm17 l Z a0 hw [] b187 xx h187 n0 Z187 g_b187 A187 f195 f196 f194 f197 f188 (by assumption)) hZ (own_w hw 146 rfl) (own_w hw 143 rfl) (by decide) (by decide)) (g := (mkF m 308 #[own_I p1, own_I p2, own_I p3, own_I vf0, own_I 0, own_I 1, own_I vi0, own_I vs0, own_I vh0, own_I (p2 &&& (2097151 : Int32)), own_R b7, own_I 18, own_U, own_U, own_U, own_U] [.null, .null, .null, (.ref b187), (.ref b187), (.ref b181), (.ref b181)])) rfl (by rw [hml]; rfl) (Steps.refl _) (a := b187) (argsL := [.null, .null, .null]) (rest := [(.ref b187), (.ref b181), (.ref b181)]) (lenOf pd_0_12 rfl) rfl (by show 2 * 0 + _ ≤ _; exact Nat.le_of_eq rfl) (hb hby at_308) (fun _ _ => ⟨rfl, e187, (by decide : 3 + 0 ≤ _), (by decide : 50 + 0 ≤ _)⟩))
                      obtain ⟨rfl, N198q, Kq198, p198_0, p198_1, p198_2⟩ := hQ198
                      have N198 := Nf198 N198q
                      have f199 := f188.keep Kq198 (allS (P := fun x => n0 ≤ x) g_b187 all0)
                      have f200 := f189.keep Kq198 (ninS ne_b7_b187 nin0)
                      have f201 := f190.keep Kq198
                      have f202 := f191.keep Kq198 (ninS ne_b181_b187 nin0)
                      have f203 := f192.keep Kq198 (ninS ne_b181_b187 nin0)
                      have f204 := f193.keep Kq198 (ninS ne_b181_b187 nin0)
                      have Z198 := Nat.le_trans Z187 Kq198.1
                      refine own_tr st198 ?_
                      try clear X187 e187 st198 N143 N198q f188 f189 f190 f191 f192 f193
                      refine own_xaconstNull X198 hx hby at_311 ?_
                      refine own_xaconstNull X198 hx hby at_312 ?_
                      refine own_xaconstNull X198 hx hby at_313 ?_
                      obtain ⟨_, T205, L205, Lc205, X205, hQ205, Nf205, st205⟩ := own_back (cells := 3) (slots := 50) (rc := 0) (rs := 0) N198 (X198.specialBack hx (y := own_mt2) rfl hown (mvT hZ (own_w hw 165 rfl)) (mvT hZ (own_w hw 9 rfl)) (mvT hZ (own_w hw 10 rfl)) (by decide) (backOf (W := 1) (rm2f l Z a0 hw [] b181 b187 xx T198.heap n0 Z198 g_b181 f201 f204 f203 f202 f199 (by assumption)) hZ (own_w hw 10 rfl) (own_w hw 4 rfl) (by decide) (by decide)) (g := (mkF m 314 #[own_I p1, own_I p2, own_I p3, own_I vf0, own_I 0, own_I 1, own_I vi0, own_I vs0, own_I vh0, own_I (p2 &&& (2097151 : Int32)), own_R b7, own_I 18, own_U, own_U, own_U, own_U] [.null, .null, .null, (.ref b187), (.ref b181), (.ref b181)])) rfl (by rw [hml]; rfl) (Steps.refl _) (a := b181) (argsL := [(.ref b187), .null, .null, .null]) (rest := [(.ref b181)]) (lenOf pd_0_1 rfl) rfl (by show 2 * 0 + _ ≤ _; exact Nat.le_of_eq rfl) (hb hby at_314) (fun _ _ => ⟨rfl, rfl, (by decide : 3 + 0 ≤ _), (by decide : 50 + 0 ≤ _)⟩))
                      obtain ⟨rfl, N205q, Kq205, p205_0, p205_1, p205_2, p205_3⟩ := hQ205
                      have N205 := Nf205 N205q
                      have f206 := f199.keep Kq205 (allS (P := fun x => n0 ≤ x) g_b181 all0)
                      have f207 := f200.keep Kq205 (ninS ne_b7_b181 nin0)
                      have Z205 := Nat.le_trans Z198 Kq205.1
                      refine own_tr st205 ?_
                      try clear X198 st205 N198 N205q f199 f200
                      refine own_xgoto X205 hx hby at_317 (pc0 := 317) (pc' := 327) rfl (by decide) (by decide) ?_
                      refine own_xastore X205 hx hby at_327 rfl (l' := #[own_I p1, own_I p2, own_I p3, own_I vf0, own_I 0, own_I 1, own_I vi0, own_I vs0, own_I vh0, own_I (p2 &&& (2097151 : Int32)), own_R b7, own_I 18, own_R b181, own_U, own_U, own_U]) rfl ?_
                      refine own_xaload X205 hx hby at_329 rfl rfl ?_
                      obtain ⟨T208, h208, X208, e208, E208, A208, D208, -, st208⟩ := newO X205 hx hZ hown (own_w hw 39 rfl) (own_w hw 40 rfl) (own_w hw 41 rfl) rfl (g := (mkF m 331 #[own_I p1, own_I p2, own_I p3, own_I vf0, own_I 0, own_I 1, own_I vi0, own_I vs0, own_I vh0, own_I (p2 &&& (2097151 : Int32)), own_R b7, own_I 18, own_R b181, own_U, own_U, own_U] [(.ref b181)])) rfl (hb hby at_331) (by decide) (by decide)
                      obtain ⟨b208, g208⟩ : ∃ z, z = T205.heap.size := ⟨_, rfl⟩
                      rw [← g208] at A208 D208 st208
                      have ne_b181_b208 : b181 ≠ b208 := Nat.ne_of_lt (Nat.lt_of_lt_of_le p205_0.lt (Nat.le_of_eq g208.symm))
                      have ne_b7_b208 : b7 ≠ b208 := Nat.ne_of_lt (Nat.lt_of_lt_of_le f207.lt (Nat.le_of_eq g208.symm))
                      have g_b208 : n0 ≤ b208 := Nat.le_trans Z205 (Nat.le_of_eq g208.symm)
                      have f209 := f206.ext E208
                      have f210 := f207.ext E208
                      have f211 := p205_0.ext E208
                      have f212 := p205_1.ext E208
                      have f213 := p205_2.ext E208
                      have f214 := p205_3.ext E208
                      have f215 : Fld Z h208 b208 own_cR "kept" "Ljava/util/List;" .null := D208 (Or.inr (own_w hw 71 rfl)) (ty := (.object "java/util/List")) (by decide)
                      have f216 : Fld Z h208 b208 own_cR "bytes" "[B" .null := D208 (Or.inr (own_w hw 73 rfl)) (ty := (.array .byte)) (by decide)
                      have f217 : Fld Z h208 b208 own_cR "position" "I" (.int 0) := D208 (Or.inl (own_w hw 75 rfl)) (ty := .int) (by decide)
                      have f218 : Fld Z h208 b208 own_cR "end" "I" (.int 0) := D208 (Or.inr (own_w hw 77 rfl)) (ty := .int) (by decide)
                      have Z208 := Nat.le_trans Z205 E208.1
                      refine own_st st208 ?_
                      try clear X205 st208 f206 f207 p205_0 p205_1 p205_2 p205_3
                      refine own_xdup X208 hx hby at_334 rfl ?_
                      refine own_xaload X208 hx hby at_335 rfl rfl ?_
                      refine own_xiconst X208 hx hby at_337 0 rfl ?_
                      refine own_xaload X208 hx hby at_338 rfl rfl ?_
                      obtain ⟨cl219, Ar219, -, Sa219, Ma219, -, -⟩ := id f210
                      refine own_st (X208.arraylength hx (own_hat e208 Ar219.1) (State.isArrayOf_alike hZ.alike Ar219.2.1) (g := (mkF m 340 #[own_I p1, own_I p2, own_I p3, own_I vf0, own_I 0, own_I 1, own_I vi0, own_I vs0, own_I vh0, own_I (p2 &&& (2097151 : Int32)), own_R b7, own_I 18, own_R b181, own_U, own_U, own_U] [(.ref b7), (.int 0), (.ref b7), (.ref b208), (.ref b208), (.ref b181)])) rfl rfl (hb hby at_340)) ?_
                      rw [len_of Sa219 Ma219]
                      obtain ⟨_, T220, L220, Lc220, X220, hQ220, Nf220, st220⟩ := own_back (cells := 4) (slots := 54) (rc := 1) (rs := 3) N205 (X208.specialBack hx (y := own_mt4) rfl hown (mvT hZ (own_w hw 42 rfl)) (mvT hZ (own_w hw 43 rfl)) (mvT hZ (own_w hw 44 rfl)) (by decide) (backOf (W := 2) (rm4 l Z a0 hw [] b208 b7 xx h208 n0 Z208 g_b208 A208 f216 f217 f218 f215 f209 (by assumption)) hZ (own_w hw 44 rfl) (own_w hw 41 rfl) (by decide) (by decide)) (g := (mkF m 341 #[own_I p1, own_I p2, own_I p3, own_I vf0, own_I 0, own_I 1, own_I vi0, own_I vs0, own_I vh0, own_I (p2 &&& (2097151 : Int32)), own_R b7, own_I 18, own_R b181, own_U, own_U, own_U] [(.int 24), (.int 0), (.ref b7), (.ref b208), (.ref b208), (.ref b181)])) rfl (by rw [hml]; rfl) (Steps.refl _) (a := b208) (argsL := [(.ref b7), (.int 0), (.int 24)]) (rest := [(.ref b208), (.ref b181)]) (lenOf pd_0_2 rfl) rfl (by show 2 * 0 + _ ≤ _; exact Nat.le_of_eq rfl) (hb hby at_341) (fun _ _ => ⟨rfl, e208, (by decide : 4 + 1 ≤ _), (by decide : 54 + 3 ≤ _)⟩))
                      obtain ⟨kp_220, rfl, N220q, Kq220, p220_0, p220_1, p220_2, p220_3, p220_4, p220_5, p220_6, p220_7, p220_8, pp220_0⟩ := hQ220
                      have N220 := Nf220 N220q
                      have f221 := f209.keep Kq220 (allS (P := fun x => n0 ≤ x) g_b208 all0)
                      have f222 := f210.keep Kq220 (ninS ne_b7_b208 nin0)
                      have f223 := f211.keep Kq220
                      have f224 := f212.keep Kq220 (ninS ne_b181_b208 nin0)
                      have f225 := f213.keep Kq220 (ninS ne_b181_b208 nin0)
                      have f226 := f214.keep Kq220 (ninS ne_b181_b208 nin0)
                      have Z220 := Nat.le_trans Z208 Kq220.1
                      refine own_tr st220 ?_
                      have g_kp_220 : n0 ≤ kp_220 := pp220_0
                      have ne_b181_kp_220 : b181 ≠ kp_220 := Exa.ne f223 p220_5 (by decide)
                      have ne_b208_kp_220 : b208 ≠ kp_220 := Exa.ne p220_0 p220_5 (by decide)
                      have ne_kp_220_b7 : kp_220 ≠ b7 := Exa.neArv p220_5 f222 (own_w hw 47 rfl)
                      try clear X208 e208 st220 N205 N220q f209 f210 f211 f212 f213 f214
                      refine own_xaconstNull X220 hx hby at_344 ?_
                      obtain ⟨cq227, kq227, qv227a, qv227b, qv227c⟩ := isOf hZ rfl f223
                      obtain ⟨_, T227, L227, Lc227, X227, hQ227, Nf227, st227⟩ := own_back (cells := 5) (slots := 57) (rc := 3) (rs := 20) N220 (X220.virtualBack hx (y := own_mt8) (z := own_mt8) hown (mvT hZ (own_w hw 78 rfl)) (mvT hZ (own_w hw 79 rfl)) (notFace_of_selects (args := #[]) (mvT hZ (own_w hw 81 rfl))) (mvT hZ (own_w hw 81 rfl)) (mvT hZ (own_w hw 80 rfl)) (by decide) (backOf (W := 0) (rm8d l Z a0 hw [] b181 b208 xx (b7) (k7) (ys) (kp_220) ((wi0.toInt8.toInt32)) (((p3 &&& (127 : Int32)).toInt8.toInt32)) ((wq0.toInt8.toInt32)) ((wh0.toInt8.toInt32)) (((((p2 &&& (2097151 : Int32)) &&& (127 : Int32)) ||| (128 : Int32)).toInt8.toInt32)) (((((((p2 &&& (2097151 : Int32)).toUInt32 >>> ((7 : Int32) &&& 31).toUInt32).toInt32) &&& (127 : Int32)) ||| (128 : Int32)).toInt8.toInt32)) (((((p2 &&& (2097151 : Int32)).toUInt32 >>> ((14 : Int32) &&& 31).toUInt32).toInt32).toInt8.toInt32)) T220.heap n0 Z220 g_b181 g_b208 g_kp_220 ne_b181_b208 (Ne.symm ne_b7_b181) (Ne.symm ne_b7_b208) ne_b181_kp_220 ne_b208_kp_220 ne_kp_220_b7 f223 f224 f226 p220_0 p220_1 p220_2 p220_3 p220_4 f222 f221 p220_5 p220_6 p220_7 p220_8 (by assumption) y0 y1 y2 y3 y4 y5 y6 y7 y8 y9 y10 y11 y12 y13 y14 y15 y16 y17 h1i h1s h1h (own_lb _) (own_nb _) (own_nb _) (own_nb _) (own_nb _) (own_b0 _) (own_b0 _) (own_b2 _)) hZ (own_w hw 82 rfl) (own_w hw 4 rfl) (by decide) (by decide)) qv227a qv227c (g := (mkF m 345 #[own_I p1, own_I p2, own_I p3, own_I vf0, own_I 0, own_I 1, own_I vi0, own_I vs0, own_I vh0, own_I (p2 &&& (2097151 : Int32)), own_R b7, own_I 18, own_R b181, own_U, own_U, own_U] [.null, (.ref b208), (.ref b181)])) rfl (by rw [hml]; rfl) (Steps.refl _) (argsL := [(.ref b208), .null]) (rest := []) (lenOf pd_0_3 rfl) rfl (by show 2 * 0 + _ ≤ _; exact Nat.le_of_eq rfl) (hb hby at_345) (fun _ _ => ⟨rfl, rfl, (by decide : 5 + 3 ≤ _), (by decide : 57 + 20 ≤ _)⟩))
                      obtain ⟨ld_227, rfl, N227q, Kq227, p227_0, p227_1, p227_2, pp227_0⟩ := hQ227
                      have N227 := Nf227 N227q
                      have f228 := f221.keep Kq227 (allS (P := fun x => n0 ≤ x) g_b181 (allS (P := fun x => n0 ≤ x) g_b208 (allS (P := fun x => n0 ≤ x) g_kp_220 all0)))
                      have f229 := f222.keep Kq227 (ninS ne_b7_b181 (ninS ne_b7_b208 (ninS (Ne.symm ne_kp_220_b7) nin0)))
                      have f230 := p220_0.keep Kq227
                      have f231 := p220_5.keep Kq227
                      have Z227 := Nat.le_trans Z220 Kq227.1
                      refine own_tr st227 ?_
                      try clear X220 st227 N220 N227q f221 f222 p220_0 p220_5
                      refine own_xaload X227 hx hby at_348 rfl rfl ?_
                      obtain ⟨cq232, kq232, qv232a, qv232b, qv232c⟩ := isOf hZ rfl p227_0
                      obtain ⟨_, T232, L232, Lc232, X232, hQ232, Nf232, st232⟩ := own_back (cells := 8) (slots := 77) (rc := 0) (rs := 0) N227 (X227.virtualBack hx (y := own_mt16) (z := own_mt16) hown (mvT hZ (own_w hw 136 rfl)) (mvT hZ (own_w hw 137 rfl)) (notFace_of_selects (args := #[]) (mvT hZ (own_w hw 139 rfl))) (mvT hZ (own_w hw 139 rfl)) (mvT hZ (own_w hw 138 rfl)) (by decide) (backOf (W := 0) (rm16n l Z a0 hw [] b181 (ld_227) T227.heap n0 Z227 p227_0 p227_1 p227_2 pp227_0) hZ (own_w hw 140 rfl) (own_w hw 4 rfl) (by decide) (by decide)) qv232a qv232c (g := (mkF m 350 #[own_I p1, own_I p2, own_I p3, own_I vf0, own_I 0, own_I 1, own_I vi0, own_I vs0, own_I vh0, own_I (p2 &&& (2097151 : Int32)), own_R b7, own_I 18, own_R b181, own_U, own_U, own_U] [(.ref b181)])) rfl (by rw [hml]; rfl) (Steps.refl _) (argsL := []) (rest := []) (lenOf pd_0_11 rfl) rfl (by show 2 * 0 + _ ≤ _; exact Nat.le_of_eq rfl) (hb hby at_350) (fun _ _ => ⟨rfl, rfl, (by decide : 8 + 0 ≤ _), (by decide : 77 + 0 ≤ _)⟩))
                      obtain ⟨rfl, N232q, e232⟩ := hQ232
                      have N232 := Nf232 N232q
                      refine own_tr st232 ?_
                      try clear X227 st232 N227 N232q
                      refine own_xastore X232 hx hby at_353 rfl (l' := #[own_I p1, own_I p2, own_I p3, own_I vf0, own_I 0, own_I 1, own_I vi0, own_I vs0, own_I vh0, own_I (p2 &&& (2097151 : Int32)), own_R b7, own_I 18, own_R b181, own_N, own_U, own_U]) rfl ?_
                      refine own_xaload X232 hx hby at_355 rfl rfl ?_
                      show own_Go p e below K (T232.setTop (mkF m 357 #[own_I p1, own_I p2, own_I p3, own_I vf0, own_I 0, own_I 1, own_I vi0, own_I vs0, own_I vh0, own_I (p2 &&& (2097151 : Int32)), own_R b7, own_I 18, own_R b181, own_N, own_U, own_U] [(.ref b181)]))
                      obtain ⟨cq233, kq233, qv233a, qv233b, qv233c⟩ := isOf hZ e232 p227_0
                      obtain ⟨_, T233, L233, Lc233, X233, hQ233, Nf233, st233⟩ := own_back (cells := 8) (slots := 77) (rc := 0) (rs := 0) N232 (X232.virtualBack hx (y := own_mt16) (z := own_mt16) hown (mvT hZ (own_w hw 136 rfl)) (mvT hZ (own_w hw 137 rfl)) (notFace_of_selects (args := #[]) (mvT hZ (own_w hw 139 rfl))) (mvT hZ (own_w hw 139 rfl)) (mvT hZ (own_w hw 138 rfl)) (by decide) (backOf (W := 0) (rm16n l Z a0 hw [] b181 (ld_227) T227.heap n0 Z227 p227_0 p227_1 p227_2 pp227_0) hZ (own_w hw 140 rfl) (own_w hw 4 rfl) (by decide) (by decide)) qv233a qv233c (g := (mkF m 357 #[own_I p1, own_I p2, own_I p3, own_I vf0, own_I 0, own_I 1, own_I vi0, own_I vs0, own_I vh0, own_I (p2 &&& (2097151 : Int32)), own_R b7, own_I 18, own_R b181, own_N, own_U, own_U] [(.ref b181)])) rfl (by rw [hml]; rfl) (Steps.refl _) (argsL := []) (rest := []) (lenOf pd_0_11 rfl) rfl (by show 2 * 0 + _ ≤ _; exact Nat.le_of_eq rfl) (hb hby at_357) (fun _ _ => ⟨rfl, e232, (by decide : 8 + 0 ≤ _), (by decide : 77 + 0 ≤ _)⟩))
                      obtain ⟨rfl, N233q, e233⟩ := hQ233
                      have N233 := Nf233 N233q
                      refine own_tr st233 ?_
                      try clear X232 e232 st233 N232 N233q
                      refine own_xastore X233 hx hby at_360 rfl (l' := #[own_I p1, own_I p2, own_I p3, own_I vf0, own_I 0, own_I 1, own_I vi0, own_I vs0, own_I vh0, own_I (p2 &&& (2097151 : Int32)), own_R b7, own_I 18, own_R b181, own_N, own_N, own_U]) rfl ?_
                      refine own_xiload X233 hx hby at_362 rfl ?_
                      refine own_xifYes X233 hx hby at_364 (pc0 := 364) (pc' := 376) ((if0 _ _).trans (teq (by decide : (0 : Int32) = (0 : Int32))).1) rfl (by decide) (by decide) ?_
                      refine own_xiconst X233 hx hby at_376 0 rfl ?_
                      refine own_xistore X233 hx hby at_377 (l' := #[own_I p1, own_I p2, own_I p3, own_I vf0, own_I 0, own_I 1, own_I vi0, own_I vs0, own_I vh0, own_I (p2 &&& (2097151 : Int32)), own_R b7, own_I 18, own_R b181, own_N, own_N, own_I 0]) rfl ?_
                      refine own_xaload X233 hx hby at_379 rfl rfl ?_
                      refine own_st (fun _ => XS.ifnullYes X233.here hx rfl (pc0 := 381) (pc' := 388) rfl (hb hby at_381) rfl (by decide) (by decide)) ?_
                      refine own_xiconst X233 hx hby at_388 0 rfl ?_
                      refine own_xiload X233 hx hby at_389 rfl ?_
                      refine own_xicmpNo X233 hx hby at_391 (teq (by decide : (0 : Int32) = (0 : Int32))).2 ?_
                      refine own_xaload X233 hx hby at_394 rfl rfl ?_
                      refine own_xaload X233 hx hby at_396 rfl rfl ?_
                      refine own_st (fun _ => Jvm.RoadKit.acmp (g := (mkF m 398 #[own_I p1, own_I p2, own_I p3, own_I vf0, own_I 0, own_I 1, own_I vi0, own_I vs0, own_I vh0, own_I (p2 &&& (2097151 : Int32)), own_R b7, own_I 18, own_R b181, own_N, own_N, own_I 0] [.null, .null])) X233 hx rfl rfl rfl (pc0 := 398) (pc' := 401) (same := true) rfl (hb hby at_398) rfl (decide_eq_true rfl) (by decide) (by decide)) ?_
                      refine own_xiconst X233 hx hby at_401 1 rfl ?_
                      refine own_xgoto X233 hx hby at_402 (pc0 := 402) (pc' := 406) rfl (by decide) (by decide) ?_
                      obtain ⟨fs, hr, hrun, hended, hW, hsame⟩ := X233.leave (v := some (.int (nar .boolean (1 : Int32)))) (fun h => by rw [Bd.returns] at h; cases h)
                      refine ⟨_, retN X233 hx (t := .boolean) Bd.returns (by simp) (hb hby at_406) hr, fin _ _ _ hrun hended ?_ ⟨⟨_, rfl⟩, hW, hsame.mono (by decide) (by decide)⟩⟩
                      show Q0 Z p1 p2 p3 xx h0 n0 _ T233.heap _
                      rw [e233]
                      exact ⟨rfl, N233⟩
                    refine own_xiload X139 hx hby at_281 rfl ?_
                    by_cases hc283 : vh0 = (0 : Int32)
                    · refine own_xifYes X139 hx hby at_283 (pc0 := 283) (pc' := 290) ((if0 _ _).trans (teq hc283).1) rfl (by decide) (by decide) ?_
                      refine own_xiconst X139 hx hby at_290 0 rfl ?_
                      exact J291 T139 _ X139 e139 N139 ((0 : Int32)) (Or.inl rfl)
                    refine own_xifNo X139 hx hby at_283 ((if0 _ _).trans (feq hc283).1) ?_
                    refine own_xiconst X139 hx hby at_286 1 rfl ?_
                    refine own_xgoto X139 hx hby at_287 (pc0 := 287) (pc' := 291) rfl (by decide) (by decide) ?_
                    exact J291 T139 _ X139 e139 N139 ((1 : Int32)) (Or.inr rfl)
                  refine own_xiload X135 hx hby at_262 rfl ?_
                  by_cases hc264 : vs0 = (0 : Int32)
                  · refine own_xifYes X135 hx hby at_264 (pc0 := 264) (pc' := 271) ((if0 _ _).trans (teq hc264).1) rfl (by decide) (by decide) ?_
                    refine own_xiconst X135 hx hby at_271 0 rfl ?_
                    exact J272 T135 _ X135 e135 N135 ((0 : Int32)) (Or.inl rfl)
                  refine own_xifNo X135 hx hby at_264 ((if0 _ _).trans (feq hc264).1) ?_
                  refine own_xiconst X135 hx hby at_267 1 rfl ?_
                  refine own_xgoto X135 hx hby at_268 (pc0 := 268) (pc' := 272) rfl (by decide) (by decide) ?_
                  exact J272 T135 _ X135 e135 N135 ((1 : Int32)) (Or.inr rfl)
                show own_Go p e below K (T14.setTop (mkF m 134 #[own_I p1, own_I p2, own_I p3, own_I 1, own_I 1, own_I vd0, own_I vi0, own_I vs0, own_I vh0, own_I (p2 &&& (2097151 : Int32)), own_R b7, own_I 3, own_U, own_U, own_U, own_U] [(.int 2), (.ref b7)]))
                refine own_xiload X14 hx hby at_134 rfl ?_
                refine own_xifNo X14 hx hby at_136 ((if0 _ _).trans (feq (by decide : ¬ ((1 : Int32) = (0 : Int32)))).1) ?_
                refine own_xiconst X14 hx hby at_139 1 rfl ?_
                refine own_xgoto X14 hx hby at_140 (pc0 := 140) (pc' := 144) rfl (by decide) (by decide) ?_
                refine own_xi2b X14 hx hby at_144 ?_
                obtain ⟨cl234, Ar234, qa234, Sa234, Ma234, Ha234, Ga234⟩ := id V14
                have hin234 : ¬ ((2 : Int32) < 0 ∨ cl234.slots.size ≤ ((2 : Int32)).toNatClampNeg) := inb_of Sa234 ⟨by decide, by decide⟩
                obtain ⟨T235, h235, X235, e235, W235, st235⟩ := stB X14 hx hZ e14 Ar234 (j := (2 : Int32)) hin234 (g := (mkF m 145 #[own_I p1, own_I p2, own_I p3, own_I 1, own_I 1, own_I vd0, own_I vi0, own_I vs0, own_I vh0, own_I (p2 &&& (2097151 : Int32)), own_R b7, own_I 3, own_U, own_U, own_U, own_U] [(.int ((1 : Int32).toInt8.toInt32)), (.int 2), (.ref b7)])) rfl rfl (hb hby at_145)
                have id235 : nar .byte ((1 : Int32).toInt8.toInt32) = ((1 : Int32).toInt8.toInt32) := (own_nb _)
                rw [id235] at W235
                have V235 : Arv Z h235 b7 k7 .byte (24 : Int32) [(.int ((0 : Int32).toInt8.toInt32)), (.int (wi0.toInt8.toInt32)), (.int ((1 : Int32).toInt8.toInt32)), (.int 0), (.int 0), (.int 0), (.int 0), (.int 0), (.int 0), (.int 0), (.int 0), (.int 0), (.int 0), (.int 0), (.int 0), (.int 0), (.int 0), (.int 0), (.int 0), (.int 0), (.int 0), (.int 0), (.int 0), (.int 0)] (.int 0) := Arv.set Ar234 qa234 Sa234 Ma234 Ha234 Ga234 (own_fit id235) W235 2 rfl (Nat.le_of_ble_eq_true rfl)
                have f236 := f15.wr W235 g_b7
                have N235 := Fr.snoc X235 N14 g_b7
                have Z235 := Nat.le_trans Z14 (Keep.of_wr W235).1
                refine own_st st235 ?_
                show own_Go p e below K (T235.setTop (mkF m 146 #[own_I p1, own_I p2, own_I p3, own_I 1, own_I 1, own_I vd0, own_I vi0, own_I vs0, own_I vh0, own_I (p2 &&& (2097151 : Int32)), own_R b7, own_I 3, own_U, own_U, own_U, own_U] []))
                try clear X14 e14 st235 f15
                refine own_xiload X235 hx hby at_146 rfl ?_
                refine own_xifNo X235 hx hby at_148 ((if0 _ _).trans (feq (by decide : ¬ ((1 : Int32) = (0 : Int32)))).1) ?_
                refine own_xaload X235 hx hby at_151 rfl rfl ?_
                refine own_xiload X235 hx hby at_153 rfl ?_
                refine own_xiinc X235 hx hby at_155 rfl (l' := #[own_I p1, own_I p2, own_I p3, own_I 1, own_I 1, own_I vd0, own_I vi0, own_I vs0, own_I vh0, own_I (p2 &&& (2097151 : Int32)), own_R b7, own_I 4, own_U, own_U, own_U, own_U]) rfl ?_
                refine own_xiconst X235 hx hby at_158 0 rfl ?_
                obtain ⟨cl237, Ar237, qa237, Sa237, Ma237, Ha237, Ga237⟩ := id V235
                have hin237 : ¬ ((3 : Int32) < 0 ∨ cl237.slots.size ≤ ((3 : Int32)).toNatClampNeg) := inb_of Sa237 ⟨by decide, by decide⟩
                obtain ⟨T238, h238, X238, e238, W238, st238⟩ := stB X235 hx hZ e235 Ar237 (j := (3 : Int32)) hin237 (g := (mkF m 159 #[own_I p1, own_I p2, own_I p3, own_I 1, own_I 1, own_I vd0, own_I vi0, own_I vs0, own_I vh0, own_I (p2 &&& (2097151 : Int32)), own_R b7, own_I 4, own_U, own_U, own_U, own_U] [(.int 0), (.int 3), (.ref b7)])) rfl rfl (hb hby at_159)
                have V238 : Arv Z h238 b7 k7 .byte (24 : Int32) [(.int ((0 : Int32).toInt8.toInt32)), (.int (wi0.toInt8.toInt32)), (.int ((1 : Int32).toInt8.toInt32)), (.int ((0 : Int32).toInt8.toInt32)), (.int 0), (.int 0), (.int 0), (.int 0), (.int 0), (.int 0), (.int 0), (.int 0), (.int 0), (.int 0), (.int 0), (.int 0), (.int 0), (.int 0), (.int 0), (.int 0), (.int 0), (.int 0), (.int 0), (.int 0)] (.int 0) := Arv.set Ar237 qa237 Sa237 Ma237 Ha237 Ga237 (fits_nar_byte _) W238 3 rfl (Nat.le_of_ble_eq_true rfl)
                have f239 := f236.wr W238 g_b7
                have N238 := Fr.snoc X238 N235 g_b7
                have Z238 := Nat.le_trans Z235 (Keep.of_wr W238).1
                refine own_st st238 ?_
                show own_Go p e below K (T238.setTop (mkF m 160 #[own_I p1, own_I p2, own_I p3, own_I 1, own_I 1, own_I vd0, own_I vi0, own_I vs0, own_I vh0, own_I (p2 &&& (2097151 : Int32)), own_R b7, own_I 4, own_U, own_U, own_U, own_U] []))
                try clear X235 e235 st238 f236
                rcases hj_vd with rfl | rfl
                · show own_Go p e below K (T238.setTop (mkF m 160 #[own_I p1, own_I p2, own_I p3, own_I 1, own_I 1, own_I 0, own_I vi0, own_I vs0, own_I vh0, own_I (p2 &&& (2097151 : Int32)), own_R b7, own_I 4, own_U, own_U, own_U, own_U] []))
                  refine own_xiload X238 hx hby at_160 rfl ?_
                  refine own_xifYes X238 hx hby at_162 (pc0 := 162) (pc' := 230) ((if0 _ _).trans (teq (by decide : (0 : Int32) = (0 : Int32))).1) rfl (by decide) (by decide) ?_
                  refine own_xaload X238 hx hby at_230 rfl rfl ?_
                  refine own_xiload X238 hx hby at_232 rfl ?_
                  refine own_xiinc X238 hx hby at_234 rfl (l' := #[own_I p1, own_I p2, own_I p3, own_I 1, own_I 1, own_I 0, own_I vi0, own_I vs0, own_I vh0, own_I (p2 &&& (2097151 : Int32)), own_R b7, own_I 5, own_U, own_U, own_U, own_U]) rfl ?_
                  refine own_xiconst X238 hx hby at_237 0 rfl ?_
                  obtain ⟨cl240, Ar240, qa240, Sa240, Ma240, Ha240, Ga240⟩ := id V238
                  have hin240 : ¬ ((4 : Int32) < 0 ∨ cl240.slots.size ≤ ((4 : Int32)).toNatClampNeg) := inb_of Sa240 ⟨by decide, by decide⟩
                  obtain ⟨T241, h241, X241, e241, W241, st241⟩ := stB X238 hx hZ e238 Ar240 (j := (4 : Int32)) hin240 (g := (mkF m 238 #[own_I p1, own_I p2, own_I p3, own_I 1, own_I 1, own_I 0, own_I vi0, own_I vs0, own_I vh0, own_I (p2 &&& (2097151 : Int32)), own_R b7, own_I 5, own_U, own_U, own_U, own_U] [(.int 0), (.int 4), (.ref b7)])) rfl rfl (hb hby at_238)
                  have V241 : Arv Z h241 b7 k7 .byte (24 : Int32) [(.int ((0 : Int32).toInt8.toInt32)), (.int (wi0.toInt8.toInt32)), (.int ((1 : Int32).toInt8.toInt32)), (.int ((0 : Int32).toInt8.toInt32)), (.int ((0 : Int32).toInt8.toInt32)), (.int 0), (.int 0), (.int 0), (.int 0), (.int 0), (.int 0), (.int 0), (.int 0), (.int 0), (.int 0), (.int 0), (.int 0), (.int 0), (.int 0), (.int 0), (.int 0), (.int 0), (.int 0), (.int 0)] (.int 0) := Arv.set Ar240 qa240 Sa240 Ma240 Ha240 Ga240 (fits_nar_byte _) W241 4 rfl (Nat.le_of_ble_eq_true rfl)
                  have f242 := f239.wr W241 g_b7
                  have N241 := Fr.snoc X241 N238 g_b7
                  have Z241 := Nat.le_trans Z238 (Keep.of_wr W241).1
                  refine own_st st241 ?_
                  show own_Go p e below K (T241.setTop (mkF m 239 #[own_I p1, own_I p2, own_I p3, own_I 1, own_I 1, own_I 0, own_I vi0, own_I vs0, own_I vh0, own_I (p2 &&& (2097151 : Int32)), own_R b7, own_I 5, own_U, own_U, own_U, own_U] []))
                  try clear X238 e238 st241 f239
                  refine own_xaload X241 hx hby at_239 rfl rfl ?_
                  refine own_xiload X241 hx hby at_241 rfl ?_
                  refine own_xiinc X241 hx hby at_243 rfl (l' := #[own_I p1, own_I p2, own_I p3, own_I 1, own_I 1, own_I 0, own_I vi0, own_I vs0, own_I vh0, own_I (p2 &&& (2097151 : Int32)), own_R b7, own_I 6, own_U, own_U, own_U, own_U]) rfl ?_
                  refine own_xiloadN X241 hx hby at_246 rfl ?_
                  refine own_xbipush X241 hx hby at_247 127 rfl ?_
                  refine own_xiand X241 hx hby at_249 ?_
                  refine own_xi2b X241 hx hby at_250 ?_
                  obtain ⟨cl243, Ar243, qa243, Sa243, Ma243, Ha243, Ga243⟩ := id V241
                  have hin243 : ¬ ((5 : Int32) < 0 ∨ cl243.slots.size ≤ ((5 : Int32)).toNatClampNeg) := inb_of Sa243 ⟨by decide, by decide⟩
                  obtain ⟨T244, h244, X244, e244, W244, st244⟩ := stB X241 hx hZ e241 Ar243 (j := (5 : Int32)) hin243 (g := (mkF m 251 #[own_I p1, own_I p2, own_I p3, own_I 1, own_I 1, own_I 0, own_I vi0, own_I vs0, own_I vh0, own_I (p2 &&& (2097151 : Int32)), own_R b7, own_I 6, own_U, own_U, own_U, own_U] [(.int ((p3 &&& (127 : Int32)).toInt8.toInt32)), (.int 5), (.ref b7)])) rfl rfl (hb hby at_251)
                  have id244 : nar .byte ((p3 &&& (127 : Int32)).toInt8.toInt32) = ((p3 &&& (127 : Int32)).toInt8.toInt32) := (own_nb _)
                  rw [id244] at W244
                  have V244 : Arv Z h244 b7 k7 .byte (24 : Int32) [(.int ((0 : Int32).toInt8.toInt32)), (.int (wi0.toInt8.toInt32)), (.int ((1 : Int32).toInt8.toInt32)), (.int ((0 : Int32).toInt8.toInt32)), (.int ((0 : Int32).toInt8.toInt32)), (.int ((p3 &&& (127 : Int32)).toInt8.toInt32)), (.int 0), (.int 0), (.int 0), (.int 0), (.int 0), (.int 0), (.int 0), (.int 0), (.int 0), (.int 0), (.int 0), (.int 0), (.int 0), (.int 0), (.int 0), (.int 0), (.int 0), (.int 0)] (.int 0) := Arv.set Ar243 qa243 Sa243 Ma243 Ha243 Ga243 (own_fit id244) W244 5 rfl (Nat.le_of_ble_eq_true rfl)
                  have f245 := f242.wr W244 g_b7
                  have N244 := Fr.snoc X244 N241 g_b7
                  have Z244 := Nat.le_trans Z241 (Keep.of_wr W244).1
                  refine own_st st244 ?_
                  show own_Go p e below K (T244.setTop (mkF m 252 #[own_I p1, own_I p2, own_I p3, own_I 1, own_I 1, own_I 0, own_I vi0, own_I vs0, own_I vh0, own_I (p2 &&& (2097151 : Int32)), own_R b7, own_I 6, own_U, own_U, own_U, own_U] []))
                  try clear X241 e241 st244 f242
                  refine own_xiinc X244 hx hby at_252 rfl (l' := #[own_I p1, own_I p2, own_I p3, own_I 1, own_I 1, own_I 0, own_I vi0, own_I vs0, own_I vh0, own_I (p2 &&& (2097151 : Int32)), own_R b7, own_I 14, own_U, own_U, own_U, own_U]) rfl ?_
                  refine own_xaload X244 hx hby at_255 rfl rfl ?_
                  refine own_xiload X244 hx hby at_257 rfl ?_
                  refine own_xiinc X244 hx hby at_259 rfl (l' := #[own_I p1, own_I p2, own_I p3, own_I 1, own_I 1, own_I 0, own_I vi0, own_I vs0, own_I vh0, own_I (p2 &&& (2097151 : Int32)), own_R b7, own_I 15, own_U, own_U, own_U, own_U]) rfl ?_
                  have J272 : ∀ (T' : State) (locs' : List Loc) (X' : Stand p l e room_1 s m #[(.int p1), (.int p2), (.int p3)] below meth c T' locs' 1 24) (e' : T'.heap = h244) (N' : Fr n0 locs') (wq0 : Int32), (wq0 = 0 ∨ wq0 = 1) → own_Go p e below K (T'.setTop (mkF m 272 #[own_I p1, own_I p2, own_I p3, own_I 1, own_I 1, own_I 0, own_I vi0, own_I vs0, own_I vh0, own_I (p2 &&& (2097151 : Int32)), own_R b7, own_I 15, own_U, own_U, own_U, own_U] [(.int wq0), (.int 14), (.ref b7)])) := by
                    intro T246 locs246 X246 e246 N246 wq0 hj_wq
                    refine own_xi2b X246 hx hby at_272 ?_
                    obtain ⟨cl247, Ar247, qa247, Sa247, Ma247, Ha247, Ga247⟩ := id V244
                    have hin247 : ¬ ((14 : Int32) < 0 ∨ cl247.slots.size ≤ ((14 : Int32)).toNatClampNeg) := inb_of Sa247 ⟨by decide, by decide⟩
                    obtain ⟨T248, h248, X248, e248, W248, st248⟩ := stB X246 hx hZ e246 Ar247 (j := (14 : Int32)) hin247 (g := (mkF m 273 #[own_I p1, own_I p2, own_I p3, own_I 1, own_I 1, own_I 0, own_I vi0, own_I vs0, own_I vh0, own_I (p2 &&& (2097151 : Int32)), own_R b7, own_I 15, own_U, own_U, own_U, own_U] [(.int (wq0.toInt8.toInt32)), (.int 14), (.ref b7)])) rfl rfl (hb hby at_273)
                    have id248 : nar .byte (wq0.toInt8.toInt32) = (wq0.toInt8.toInt32) := (own_nb _)
                    rw [id248] at W248
                    have V248 : Arv Z h248 b7 k7 .byte (24 : Int32) [(.int ((0 : Int32).toInt8.toInt32)), (.int (wi0.toInt8.toInt32)), (.int ((1 : Int32).toInt8.toInt32)), (.int ((0 : Int32).toInt8.toInt32)), (.int ((0 : Int32).toInt8.toInt32)), (.int ((p3 &&& (127 : Int32)).toInt8.toInt32)), (.int 0), (.int 0), (.int 0), (.int 0), (.int 0), (.int 0), (.int 0), (.int 0), (.int (wq0.toInt8.toInt32)), (.int 0), (.int 0), (.int 0), (.int 0), (.int 0), (.int 0), (.int 0), (.int 0), (.int 0)] (.int 0) := Arv.set Ar247 qa247 Sa247 Ma247 Ha247 Ga247 (own_fit id248) W248 14 rfl (Nat.le_of_ble_eq_true rfl)
                    have f249 := f245.wr W248 g_b7
                    have N248 := Fr.snoc X248 N246 g_b7
                    have Z248 := Nat.le_trans Z244 (Keep.of_wr W248).1
                    refine own_st st248 ?_
                    show own_Go p e below K (T248.setTop (mkF m 274 #[own_I p1, own_I p2, own_I p3, own_I 1, own_I 1, own_I 0, own_I vi0, own_I vs0, own_I vh0, own_I (p2 &&& (2097151 : Int32)), own_R b7, own_I 15, own_U, own_U, own_U, own_U] []))
                    try clear X246 e246 st248 f245
                    refine own_xaload X248 hx hby at_274 rfl rfl ?_
                    refine own_xiload X248 hx hby at_276 rfl ?_
                    refine own_xiinc X248 hx hby at_278 rfl (l' := #[own_I p1, own_I p2, own_I p3, own_I 1, own_I 1, own_I 0, own_I vi0, own_I vs0, own_I vh0, own_I (p2 &&& (2097151 : Int32)), own_R b7, own_I 16, own_U, own_U, own_U, own_U]) rfl ?_
                    have J291 : ∀ (T' : State) (locs' : List Loc) (X' : Stand p l e room_1 s m #[(.int p1), (.int p2), (.int p3)] below meth c T' locs' 1 24) (e' : T'.heap = h248) (N' : Fr n0 locs') (wh0 : Int32), (wh0 = 0 ∨ wh0 = 1) → own_Go p e below K (T'.setTop (mkF m 291 #[own_I p1, own_I p2, own_I p3, own_I 1, own_I 1, own_I 0, own_I vi0, own_I vs0, own_I vh0, own_I (p2 &&& (2097151 : Int32)), own_R b7, own_I 16, own_U, own_U, own_U, own_U] [(.int wh0), (.int 15), (.ref b7)])) := by
                      intro T250 locs250 X250 e250 N250 wh0 hj_wh
                      refine own_xi2b X250 hx hby at_291 ?_
                      obtain ⟨cl251, Ar251, qa251, Sa251, Ma251, Ha251, Ga251⟩ := id V248
                      have hin251 : ¬ ((15 : Int32) < 0 ∨ cl251.slots.size ≤ ((15 : Int32)).toNatClampNeg) := inb_of Sa251 ⟨by decide, by decide⟩
                      obtain ⟨T252, h252, X252, e252, W252, st252⟩ := stB X250 hx hZ e250 Ar251 (j := (15 : Int32)) hin251 (g := (mkF m 292 #[own_I p1, own_I p2, own_I p3, own_I 1, own_I 1, own_I 0, own_I vi0, own_I vs0, own_I vh0, own_I (p2 &&& (2097151 : Int32)), own_R b7, own_I 16, own_U, own_U, own_U, own_U] [(.int (wh0.toInt8.toInt32)), (.int 15), (.ref b7)])) rfl rfl (hb hby at_292)
                      have id252 : nar .byte (wh0.toInt8.toInt32) = (wh0.toInt8.toInt32) := (own_nb _)
                      rw [id252] at W252
                      have V252 : Arv Z h252 b7 k7 .byte (24 : Int32) [(.int ((0 : Int32).toInt8.toInt32)), (.int (wi0.toInt8.toInt32)), (.int ((1 : Int32).toInt8.toInt32)), (.int ((0 : Int32).toInt8.toInt32)), (.int ((0 : Int32).toInt8.toInt32)), (.int ((p3 &&& (127 : Int32)).toInt8.toInt32)), (.int 0), (.int 0), (.int 0), (.int 0), (.int 0), (.int 0), (.int 0), (.int 0), (.int (wq0.toInt8.toInt32)), (.int (wh0.toInt8.toInt32)), (.int 0), (.int 0), (.int 0), (.int 0), (.int 0), (.int 0), (.int 0), (.int 0)] (.int 0) := Arv.set Ar251 qa251 Sa251 Ma251 Ha251 Ga251 (own_fit id252) W252 15 rfl (Nat.le_of_ble_eq_true rfl)
                      have f253 := f249.wr W252 g_b7
                      have N252 := Fr.snoc X252 N250 g_b7
                      have Z252 := Nat.le_trans Z248 (Keep.of_wr W252).1
                      refine own_st st252 ?_
                      show own_Go p e below K (T252.setTop (mkF m 293 #[own_I p1, own_I p2, own_I p3, own_I 1, own_I 1, own_I 0, own_I vi0, own_I vs0, own_I vh0, own_I (p2 &&& (2097151 : Int32)), own_R b7, own_I 16, own_U, own_U, own_U, own_U] []))
                      try clear X250 e250 st252 f249
                      obtain ⟨ys, hys⟩ : ∃ z : List Int32, z = [((0 : Int32).toInt8.toInt32), (wi0.toInt8.toInt32), ((1 : Int32).toInt8.toInt32), ((0 : Int32).toInt8.toInt32), ((0 : Int32).toInt8.toInt32), ((p3 &&& (127 : Int32)).toInt8.toInt32), (0 : Int32), (0 : Int32), (0 : Int32), (0 : Int32), (0 : Int32), (0 : Int32), (0 : Int32), (0 : Int32), (wq0.toInt8.toInt32), (wh0.toInt8.toInt32), (0 : Int32), (0 : Int32), (0 : Int32), (0 : Int32), (0 : Int32), (0 : Int32), (0 : Int32), (0 : Int32)] := ⟨_, rfl⟩
                      have V254 : Arv Z h252 b7 k7 .byte (24 : Int32) (ys.map Value.int) (.int 0) := by rw [hys]; exact V252
                      have y0 : ys.getD 0 0 = (0 : Int32) := by rw [hys]; exact (by decide : ((0 : Int32).toInt8.toInt32) = (0 : Int32))
                      have y1 : ys.getD 1 0 = (wi0.toInt8.toInt32) := by rw [hys]; rfl
                      have y2 : ys.getD 2 0 = (1 : Int32) := by rw [hys]; exact (by decide : ((1 : Int32).toInt8.toInt32) = (1 : Int32))
                      have y3 : ys.getD 3 0 = (0 : Int32) := by rw [hys]; exact (by decide : ((0 : Int32).toInt8.toInt32) = (0 : Int32))
                      have y4 : ys.getD 4 0 = (0 : Int32) := by rw [hys]; exact (by decide : ((0 : Int32).toInt8.toInt32) = (0 : Int32))
                      have y5 : ys.getD 5 0 = ((p3 &&& (127 : Int32)).toInt8.toInt32) := by rw [hys]; rfl
                      have y6 : ys.getD 6 0 = (0 : Int32) := by rw [hys]; rfl
                      have y7 : ys.getD 7 0 = (0 : Int32) := by rw [hys]; rfl
                      have y8 : ys.getD 8 0 = (0 : Int32) := by rw [hys]; rfl
                      have y9 : ys.getD 9 0 = (0 : Int32) := by rw [hys]; rfl
                      have y10 : ys.getD 10 0 = (0 : Int32) := by rw [hys]; rfl
                      have y11 : ys.getD 11 0 = (0 : Int32) := by rw [hys]; rfl
                      have y12 : ys.getD 12 0 = (0 : Int32) := by rw [hys]; rfl
                      have y13 : ys.getD 13 0 = (0 : Int32) := by rw [hys]; rfl
                      have y14 : ys.getD 14 0 = (wq0.toInt8.toInt32) := by rw [hys]; rfl
                      have y15 : ys.getD 15 0 = (wh0.toInt8.toInt32) := by rw [hys]; rfl
                      have h1i := own_i8b hj_wi
                      have h1s := own_i8b hj_wq
                      have h1h := own_i8b hj_wh
                      refine own_xiloadN X252 hx hby at_293 rfl ?_
                      refine own_xifNo X252 hx hby at_294 ((if0 _ _).trans (feq (by decide : ¬ ((1 : Int32) = (0 : Int32)))).1) ?_
                      obtain ⟨T255, h255, X255, e255, E255, A255, D255, -, st255⟩ := newO X252 hx hZ hown (own_w hw 2 rfl) (own_w hw 3 rfl) (own_w hw 4 rfl) e252 (g := (mkF m 297 #[own_I p1, own_I p2, own_I p3, own_I 1, own_I 1, own_I 0, own_I vi0, own_I vs0, own_I vh0, own_I (p2 &&& (2097151 : Int32)), own_R b7, own_I 16, own_U, own_U, own_U, own_U] [])) rfl (hb hby at_297) (by decide) (by decide)
                      obtain ⟨b255, g255⟩ : ∃ z, z = h252.size := ⟨_, rfl⟩
                      rw [← g255] at A255 D255 st255
                      have ne_b7_b255 : b7 ≠ b255 := Nat.ne_of_lt (Nat.lt_of_lt_of_le V254.lt (Nat.le_of_eq g255.symm))
                      have g_b255 : n0 ≤ b255 := Nat.le_trans Z252 (Nat.le_of_eq g255.symm)
                      have f256 := f253.ext E255
                      have f257 := V254.ext E255
                      have f258 : Fld Z h255 b255 own_cL "lastFoldedDay" "J" (.long 0) := D255 (Or.inl (own_w hw 22 rfl)) (ty := .long) (by decide)
                      have f259 : Fld Z h255 b255 own_cL "folding" own_dF .null := D255 (Or.inr (own_w hw 32 rfl)) (ty := (.object own_cF)) (by decide)
                      have f260 : Fld Z h255 b255 own_cL "carried" own_dB .null := D255 (Or.inl (own_w hw 306 rfl)) (ty := (.object own_cB)) (by decide)
                      have Z255 := Nat.le_trans Z252 E255.1
                      refine own_st st255 ?_
                      try clear X252 e252 st255 f253 V254
                      refine own_xdup X255 hx hby at_300 rfl ?_
                      obtain ⟨T261, h261, X261, e261, E261, A261, D261, -, st261⟩ := newO X255 hx hZ hown (own_w hw 141 rfl) (own_w hw 142 rfl) (own_w hw 143 rfl) e255 (g := (mkF m 301 #[own_I p1, own_I p2, own_I p3, own_I 1, own_I 1, own_I 0, own_I vi0, own_I vs0, own_I vh0, own_I (p2 &&& (2097151 : Int32)), own_R b7, own_I 16, own_U, own_U, own_U, own_U] [(.ref b255), (.ref b255)])) rfl (hb hby at_301) (by decide) (by decide)
                      obtain ⟨b261, g261⟩ : ∃ z, z = h255.size := ⟨_, rfl⟩
                      rw [← g261] at A261 D261 st261
                      have ne_b255_b261 : b255 ≠ b261 := Nat.ne_of_lt (Nat.lt_of_lt_of_le A255.lt (Nat.le_of_eq g261.symm))
                      have ne_b7_b261 : b7 ≠ b261 := Nat.ne_of_lt (Nat.lt_of_lt_of_le f257.lt (Nat.le_of_eq g261.symm))
                      have g_b261 : n0 ≤ b261 := Nat.le_trans Z255 (Nat.le_of_eq g261.symm)
                      have f262 := f256.ext E261
                      have f263 := f257.ext E261
                      have f264 := A255.ext E261
                      have f265 := f258.ext E261
                      have f266 := f259.ext E261
                      have f267 := f260.ext E261
                      have f268 : Fld Z h261 b261 own_cF "through" "Ljava/time/LocalDate;" .null := D261 (Or.inr (own_w hw 158 rfl)) (ty := (.object own_cD)) (by decide)
                      have f269 : Fld Z h261 b261 own_cF "funds" "Lcom/example/deferline/deferline/market/Funds;" .null := D261 (Or.inr (own_w hw 160 rfl)) (ty := (.object "com/example/deferline/deferline/market/Funds")) (by decide)
                      have f270 : Fld Z h261 b261 own_cF "calendar" "Lcom/example/deferline/deferline/market/TradingCalendar;" .null := D261 (Or.inr (own_w hw 162 rfl)) (ty := (.object "com/example/deferline/deferline/market/TradingCalendar")) (by decide)
                      have f271 : Fld Z h261 b261 own_cF "participantsKeptWhole" "Ljava/util/Set;" .null := D261 (Or.inr (own_w hw 164 rfl)) (ty := (.object "java/util/Set")) (by decide)
                      have Z261 := Nat.le_trans Z255 E261.1
                      refine own_st st261 ?_
                      try clear X255 e255 st261 f256 f257 A255 f258 f259 f260
                      refine own_xdup X261 hx hby at_304 rfl ?_
                      refine own_xaconstNull X261 hx hby at_305 ?_
                      refine own_xaconstNull X261 hx hby at_306 ?_
                      refine own_xaconstNull X261 hx hby at_307 ?_
                      obtain ⟨_, T272, L272, Lc272, X272, hQ272, Nf272, st272⟩ := own_back (cells := 3) (slots := 50) (rc := 0) (rs := 0) N252 (X261.specialBack hx (y := own_mt17) rfl hown (mvT hZ (own_w hw 144 rfl)) (mvT hZ (own_w hw 145 rfl)) (mvT hZ (own_w hw 146 rfl)) (by decide) (backOf (W := 3) (rm17 l Z a0 hw [] b261 xx h261 n0 Z261 g_b261 A261 f269 f270 f268 f271 f262 (by assumption)) hZ (own_w hw 146 rfl) (own_w hw 143 rfl) (by decide) (by decide)) (g := (mkF m 308 #[own_I p1, own_I p2, own_I p3, own_I 1, own_I 1, own_I 0, own_I vi0, own_I vs0, own_I vh0, own_I (p2 &&& (2097151 : Int32)), own_R b7, own_I 16, own_U, own_U, own_U, own_U] [.null, .null, .null, (.ref b261), (.ref b261), (.ref b255), (.ref b255)])) rfl (by rw [hml]; rfl) (Steps.refl _) (a := b261) (argsL := [.null, .null, .null]) (rest := [(.ref b261), (.ref b255), (.ref b255)]) (lenOf pd_0_12 rfl) rfl (by show 2 * 0 + _ ≤ _; exact Nat.le_of_eq rfl) (hb hby at_308) (fun _ _ => ⟨rfl, e261, (by decide : 3 + 0 ≤ _), (by decide : 50 + 0 ≤ _)⟩))
                      obtain ⟨rfl, N272q, Kq272, p272_0, p272_1, p272_2⟩ := hQ272
                      have N272 := Nf272 N272q
                      have f273 := f262.keep Kq272 (allS (P := fun x => n0 ≤ x) g_b261 all0)
                      have f274 := f263.keep Kq272 (ninS ne_b7_b261 nin0)
                      have f275 := f264.keep Kq272
                      have f276 := f265.keep Kq272 (ninS ne_b255_b261 nin0)
                      have f277 := f266.keep Kq272 (ninS ne_b255_b261 nin0)
                      have f278 := f267.keep Kq272 (ninS ne_b255_b261 nin0)
                      have Z272 := Nat.le_trans Z261 Kq272.1
                      refine own_tr st272 ?_
                      try clear X261 e261 st272 N252 N272q f262 f263 f264 f265 f266 f267
                      refine own_xaconstNull X272 hx hby at_311 ?_
                      refine own_xaconstNull X272 hx hby at_312 ?_
                      refine own_xaconstNull X272 hx hby at_313 ?_
                      obtain ⟨_, T279, L279, Lc279, X279, hQ279, Nf279, st279⟩ := own_back (cells := 3) (slots := 50) (rc := 0) (rs := 0) N272 (X272.specialBack hx (y := own_mt2) rfl hown (mvT hZ (own_w hw 165 rfl)) (mvT hZ (own_w hw 9 rfl)) (mvT hZ (own_w hw 10 rfl)) (by decide) (backOf (W := 1) (rm2f l Z a0 hw [] b255 b261 xx T272.heap n0 Z272 g_b255 f275 f278 f277 f276 f273 (by assumption)) hZ (own_w hw 10 rfl) (own_w hw 4 rfl) (by decide) (by decide)) (g := (mkF m 314 #[own_I p1, own_I p2, own_I p3, own_I 1, own_I 1, own_I 0, own_I vi0, own_I vs0, own_I vh0, own_I (p2 &&& (2097151 : Int32)), own_R b7, own_I 16, own_U, own_U, own_U, own_U] [.null, .null, .null, (.ref b261), (.ref b255), (.ref b255)])) rfl (by rw [hml]; rfl) (Steps.refl _) (a := b255) (argsL := [(.ref b261), .null, .null, .null]) (rest := [(.ref b255)]) (lenOf pd_0_1 rfl) rfl (by show 2 * 0 + _ ≤ _; exact Nat.le_of_eq rfl) (hb hby at_314) (fun _ _ => ⟨rfl, rfl, (by decide : 3 + 0 ≤ _), (by decide : 50 + 0 ≤ _)⟩))
                      obtain ⟨rfl, N279q, Kq279, p279_0, p279_1, p279_2, p279_3⟩ := hQ279
                      have N279 := Nf279 N279q
                      have f280 := f273.keep Kq279 (allS (P := fun x => n0 ≤ x) g_b255 all0)
                      have f281 := f274.keep Kq279 (ninS ne_b7_b255 nin0)
                      have f282 := p272_0.keep Kq279
                      have f283 := p272_1.keep Kq279 (ninS (Ne.symm ne_b255_b261) nin0)
                      have f284 := p272_2.keep Kq279 (ninS (Ne.symm ne_b255_b261) nin0)
                      have Z279 := Nat.le_trans Z272 Kq279.1
                      refine own_tr st279 ?_
                      try clear X272 st279 N272 N279q f273 f274 p272_0 p272_1 p272_2
                      refine own_xgoto X279 hx hby at_317 (pc0 := 317) (pc' := 327) rfl (by decide) (by decide) ?_
                      refine own_xastore X279 hx hby at_327 rfl (l' := #[own_I p1, own_I p2, own_I p3, own_I 1, own_I 1, own_I 0, own_I vi0, own_I vs0, own_I vh0, own_I (p2 &&& (2097151 : Int32)), own_R b7, own_I 16, own_R b255, own_U, own_U, own_U]) rfl ?_
                      refine own_xaload X279 hx hby at_329 rfl rfl ?_
                      obtain ⟨T285, h285, X285, e285, E285, A285, D285, -, st285⟩ := newO X279 hx hZ hown (own_w hw 39 rfl) (own_w hw 40 rfl) (own_w hw 41 rfl) rfl (g := (mkF m 331 #[own_I p1, own_I p2, own_I p3, own_I 1, own_I 1, own_I 0, own_I vi0, own_I vs0, own_I vh0, own_I (p2 &&& (2097151 : Int32)), own_R b7, own_I 16, own_R b255, own_U, own_U, own_U] [(.ref b255)])) rfl (hb hby at_331) (by decide) (by decide)
                      obtain ⟨b285, g285⟩ : ∃ z, z = T279.heap.size := ⟨_, rfl⟩
                      rw [← g285] at A285 D285 st285
                      have ne_b255_b285 : b255 ≠ b285 := Nat.ne_of_lt (Nat.lt_of_lt_of_le p279_0.lt (Nat.le_of_eq g285.symm))
                      have ne_b261_b285 : b261 ≠ b285 := Nat.ne_of_lt (Nat.lt_of_lt_of_le f282.lt (Nat.le_of_eq g285.symm))
                      have ne_b7_b285 : b7 ≠ b285 := Nat.ne_of_lt (Nat.lt_of_lt_of_le f281.lt (Nat.le_of_eq g285.symm))
                      have g_b285 : n0 ≤ b285 := Nat.le_trans Z279 (Nat.le_of_eq g285.symm)
                      have f286 := f280.ext E285
                      have f287 := f281.ext E285
                      have f288 := f282.ext E285
                      have f289 := f283.ext E285
                      have f290 := f284.ext E285
                      have f291 := p279_0.ext E285
                      have f292 := p279_1.ext E285
                      have f293 := p279_2.ext E285
                      have f294 := p279_3.ext E285
                      have f295 : Fld Z h285 b285 own_cR "kept" "Ljava/util/List;" .null := D285 (Or.inr (own_w hw 71 rfl)) (ty := (.object "java/util/List")) (by decide)
                      have f296 : Fld Z h285 b285 own_cR "bytes" "[B" .null := D285 (Or.inr (own_w hw 73 rfl)) (ty := (.array .byte)) (by decide)
                      have f297 : Fld Z h285 b285 own_cR "position" "I" (.int 0) := D285 (Or.inl (own_w hw 75 rfl)) (ty := .int) (by decide)
                      have f298 : Fld Z h285 b285 own_cR "end" "I" (.int 0) := D285 (Or.inr (own_w hw 77 rfl)) (ty := .int) (by decide)
                      have Z285 := Nat.le_trans Z279 E285.1
                      refine own_st st285 ?_
                      try clear X279 st285 f280 f281 f282 f283 f284 p279_0 p279_1 p279_2 p279_3
                      refine own_xdup X285 hx hby at_334 rfl ?_
                      refine own_xaload X285 hx hby at_335 rfl rfl ?_
                      refine own_xiconst X285 hx hby at_337 0 rfl ?_
                      refine own_xaload X285 hx hby at_338 rfl rfl ?_
                      obtain ⟨cl299, Ar299, -, Sa299, Ma299, -, -⟩ := id f287
                      refine own_st (X285.arraylength hx (own_hat e285 Ar299.1) (State.isArrayOf_alike hZ.alike Ar299.2.1) (g := (mkF m 340 #[own_I p1, own_I p2, own_I p3, own_I 1, own_I 1, own_I 0, own_I vi0, own_I vs0, own_I vh0, own_I (p2 &&& (2097151 : Int32)), own_R b7, own_I 16, own_R b255, own_U, own_U, own_U] [(.ref b7), (.int 0), (.ref b7), (.ref b285), (.ref b285), (.ref b255)])) rfl rfl (hb hby at_340)) ?_
                      rw [len_of Sa299 Ma299]
                      obtain ⟨_, T300, L300, Lc300, X300, hQ300, Nf300, st300⟩ := own_back (cells := 4) (slots := 54) (rc := 1) (rs := 3) N279 (X285.specialBack hx (y := own_mt4) rfl hown (mvT hZ (own_w hw 42 rfl)) (mvT hZ (own_w hw 43 rfl)) (mvT hZ (own_w hw 44 rfl)) (by decide) (backOf (W := 2) (rm4 l Z a0 hw [] b285 b7 xx h285 n0 Z285 g_b285 A285 f296 f297 f298 f295 f286 (by assumption)) hZ (own_w hw 44 rfl) (own_w hw 41 rfl) (by decide) (by decide)) (g := (mkF m 341 #[own_I p1, own_I p2, own_I p3, own_I 1, own_I 1, own_I 0, own_I vi0, own_I vs0, own_I vh0, own_I (p2 &&& (2097151 : Int32)), own_R b7, own_I 16, own_R b255, own_U, own_U, own_U] [(.int 24), (.int 0), (.ref b7), (.ref b285), (.ref b285), (.ref b255)])) rfl (by rw [hml]; rfl) (Steps.refl _) (a := b285) (argsL := [(.ref b7), (.int 0), (.int 24)]) (rest := [(.ref b285), (.ref b255)]) (lenOf pd_0_2 rfl) rfl (by show 2 * 0 + _ ≤ _; exact Nat.le_of_eq rfl) (hb hby at_341) (fun _ _ => ⟨rfl, e285, (by decide : 4 + 1 ≤ _), (by decide : 54 + 3 ≤ _)⟩))
                      obtain ⟨kp_300, rfl, N300q, Kq300, p300_0, p300_1, p300_2, p300_3, p300_4, p300_5, p300_6, p300_7, p300_8, pp300_0⟩ := hQ300
                      have N300 := Nf300 N300q
                      have f301 := f286.keep Kq300 (allS (P := fun x => n0 ≤ x) g_b285 all0)
                      have f302 := f287.keep Kq300 (ninS ne_b7_b285 nin0)
                      have f303 := f288.keep Kq300
                      have f304 := f289.keep Kq300 (ninS ne_b261_b285 nin0)
                      have f305 := f290.keep Kq300 (ninS ne_b261_b285 nin0)
                      have f306 := f291.keep Kq300
                      have f307 := f292.keep Kq300 (ninS ne_b255_b285 nin0)
                      have f308 := f293.keep Kq300 (ninS ne_b255_b285 nin0)
                      have f309 := f294.keep Kq300 (ninS ne_b255_b285 nin0)
                      have Z300 := Nat.le_trans Z285 Kq300.1
                      refine own_tr st300 ?_
                      have g_kp_300 : n0 ≤ kp_300 := pp300_0
                      have ne_b255_kp_300 : b255 ≠ kp_300 := Exa.ne f306 p300_5 (by decide)
                      have ne_b285_kp_300 : b285 ≠ kp_300 := Exa.ne p300_0 p300_5 (by decide)
                      have ne_kp_300_b7 : kp_300 ≠ b7 := Exa.neArv p300_5 f302 (own_w hw 47 rfl)
                      have ne_b261_kp_300 : b261 ≠ kp_300 := Exa.ne f303 p300_5 (by decide)
                      try clear X285 e285 st300 N279 N300q f286 f287 f288 f289 f290 f291 f292 f293 f294
                      refine own_xaconstNull X300 hx hby at_344 ?_
                      obtain ⟨cq310, kq310, qv310a, qv310b, qv310c⟩ := isOf hZ rfl f306
                      obtain ⟨_, T310, L310, Lc310, X310, hQ310, Nf310, st310⟩ := own_back (cells := 5) (slots := 57) (rc := 3) (rs := 20) N300 (X300.virtualBack hx (y := own_mt8) (z := own_mt8) hown (mvT hZ (own_w hw 78 rfl)) (mvT hZ (own_w hw 79 rfl)) (notFace_of_selects (args := #[]) (mvT hZ (own_w hw 81 rfl))) (mvT hZ (own_w hw 81 rfl)) (mvT hZ (own_w hw 80 rfl)) (by decide) (backOf (W := 0) (rm8k l Z a0 hw [] b255 b285 xx (b7) (k7) (ys) (kp_300) ((wi0.toInt8.toInt32)) (((p3 &&& (127 : Int32)).toInt8.toInt32)) ((wq0.toInt8.toInt32)) ((wh0.toInt8.toInt32)) (b261) T300.heap n0 Z300 g_b255 g_b285 g_kp_300 ne_b255_b285 (Ne.symm ne_b7_b255) (Ne.symm ne_b7_b285) ne_b255_b261 (Ne.symm ne_b261_b285) f306 f307 f308 f309 p300_0 p300_1 p300_2 p300_3 p300_4 f302 f301 f303 f304 f305 (by assumption) y0 y1 y2 y3 y4 y5 y6 y7 y8 y9 y10 y11 y12 y13 y14 y15 h1i h1s h1h (own_lb _) (own_nb _)) hZ (own_w hw 82 rfl) (own_w hw 4 rfl) (by decide) (by decide)) qv310a qv310c (g := (mkF m 345 #[own_I p1, own_I p2, own_I p3, own_I 1, own_I 1, own_I 0, own_I vi0, own_I vs0, own_I vh0, own_I (p2 &&& (2097151 : Int32)), own_R b7, own_I 16, own_R b255, own_U, own_U, own_U] [.null, (.ref b285), (.ref b255)])) rfl (by rw [hml]; rfl) (Steps.refl _) (argsL := [(.ref b285), .null]) (rest := []) (lenOf pd_0_3 rfl) rfl (by show 2 * 0 + _ ≤ _; exact Nat.le_of_eq rfl) (hb hby at_345) (fun _ _ => ⟨rfl, rfl, (by decide : 5 + 3 ≤ _), (by decide : 57 + 20 ≤ _)⟩))
                      obtain ⟨cr_310, rfl, N310q, Kq310, p310_0, p310_1, p310_2⟩ := hQ310
                      have N310 := Nf310 N310q
                      have f311 := f301.keep Kq310 (allS (P := fun x => n0 ≤ x) g_b255 (allS (P := fun x => n0 ≤ x) g_b285 (allS (P := fun x => n0 ≤ x) g_kp_300 all0)))
                      have f312 := f302.keep Kq310 (ninS ne_b7_b255 (ninS ne_b7_b285 (ninS (Ne.symm ne_kp_300_b7) nin0)))
                      have f313 := f303.keep Kq310
                      have f314 := f304.keep Kq310 (ninS (Ne.symm ne_b255_b261) (ninS ne_b261_b285 (ninS ne_b261_kp_300 nin0)))
                      have f315 := f305.keep Kq310 (ninS (Ne.symm ne_b255_b261) (ninS ne_b261_b285 (ninS ne_b261_kp_300 nin0)))
                      have f316 := p300_0.keep Kq310
                      have f317 := p300_5.keep Kq310
                      have Z310 := Nat.le_trans Z300 Kq310.1
                      refine own_tr st310 ?_
                      try clear X300 st310 N300 N310q f301 f302 f303 f304 f305 p300_0 p300_5
                      refine own_xaload X310 hx hby at_348 rfl rfl ?_
                      obtain ⟨cq318, kq318, qv318a, qv318b, qv318c⟩ := isOf hZ rfl p310_0
                      obtain ⟨_, T318, L318, Lc318, X318, hQ318, Nf318, st318⟩ := own_back (cells := 8) (slots := 77) (rc := 0) (rs := 0) N310 (X310.virtualBack hx (y := own_mt16) (z := own_mt16) hown (mvT hZ (own_w hw 136 rfl)) (mvT hZ (own_w hw 137 rfl)) (notFace_of_selects (args := #[]) (mvT hZ (own_w hw 139 rfl))) (mvT hZ (own_w hw 139 rfl)) (mvT hZ (own_w hw 138 rfl)) (by decide) (backOf (W := 0) (rm16 l Z a0 hw [] b255 T310.heap n0 Z310 p310_0 p310_1) hZ (own_w hw 140 rfl) (own_w hw 4 rfl) (by decide) (by decide)) qv318a qv318c (g := (mkF m 350 #[own_I p1, own_I p2, own_I p3, own_I 1, own_I 1, own_I 0, own_I vi0, own_I vs0, own_I vh0, own_I (p2 &&& (2097151 : Int32)), own_R b7, own_I 16, own_R b255, own_U, own_U, own_U] [(.ref b255)])) rfl (by rw [hml]; rfl) (Steps.refl _) (argsL := []) (rest := []) (lenOf pd_0_11 rfl) rfl (by show 2 * 0 + _ ≤ _; exact Nat.le_of_eq rfl) (hb hby at_350) (fun _ _ => ⟨rfl, rfl, (by decide : 8 + 0 ≤ _), (by decide : 77 + 0 ≤ _)⟩))
                      obtain ⟨rfl, N318q, e318⟩ := hQ318
                      have N318 := Nf318 N318q
                      refine own_tr st318 ?_
                      try clear X310 st318 N310 N318q
                      refine own_xastore X318 hx hby at_353 rfl (l' := #[own_I p1, own_I p2, own_I p3, own_I 1, own_I 1, own_I 0, own_I vi0, own_I vs0, own_I vh0, own_I (p2 &&& (2097151 : Int32)), own_R b7, own_I 16, own_R b255, own_N, own_U, own_U]) rfl ?_
                      refine own_xaload X318 hx hby at_355 rfl rfl ?_
                      show own_Go p e below K (T318.setTop (mkF m 357 #[own_I p1, own_I p2, own_I p3, own_I 1, own_I 1, own_I 0, own_I vi0, own_I vs0, own_I vh0, own_I (p2 &&& (2097151 : Int32)), own_R b7, own_I 16, own_R b255, own_N, own_U, own_U] [(.ref b255)]))
                      obtain ⟨cq319, kq319, qv319a, qv319b, qv319c⟩ := isOf hZ e318 p310_0
                      obtain ⟨_, T319, L319, Lc319, X319, hQ319, Nf319, st319⟩ := own_back (cells := 8) (slots := 77) (rc := 0) (rs := 0) N318 (X318.virtualBack hx (y := own_mt16) (z := own_mt16) hown (mvT hZ (own_w hw 136 rfl)) (mvT hZ (own_w hw 137 rfl)) (notFace_of_selects (args := #[]) (mvT hZ (own_w hw 139 rfl))) (mvT hZ (own_w hw 139 rfl)) (mvT hZ (own_w hw 138 rfl)) (by decide) (backOf (W := 0) (rm16 l Z a0 hw [] b255 T310.heap n0 Z310 p310_0 p310_1) hZ (own_w hw 140 rfl) (own_w hw 4 rfl) (by decide) (by decide)) qv319a qv319c (g := (mkF m 357 #[own_I p1, own_I p2, own_I p3, own_I 1, own_I 1, own_I 0, own_I vi0, own_I vs0, own_I vh0, own_I (p2 &&& (2097151 : Int32)), own_R b7, own_I 16, own_R b255, own_N, own_U, own_U] [(.ref b255)])) rfl (by rw [hml]; rfl) (Steps.refl _) (argsL := []) (rest := []) (lenOf pd_0_11 rfl) rfl (by show 2 * 0 + _ ≤ _; exact Nat.le_of_eq rfl) (hb hby at_357) (fun _ _ => ⟨rfl, e318, (by decide : 8 + 0 ≤ _), (by decide : 77 + 0 ≤ _)⟩))
                      obtain ⟨rfl, N319q, e319⟩ := hQ319
                      have N319 := Nf319 N319q
                      refine own_tr st319 ?_
                      try clear X318 e318 st319 N318 N319q
                      refine own_xastore X319 hx hby at_360 rfl (l' := #[own_I p1, own_I p2, own_I p3, own_I 1, own_I 1, own_I 0, own_I vi0, own_I vs0, own_I vh0, own_I (p2 &&& (2097151 : Int32)), own_R b7, own_I 16, own_R b255, own_N, own_N, own_U]) rfl ?_
                      refine own_xiload X319 hx hby at_362 rfl ?_
                      refine own_xifNo X319 hx hby at_364 ((if0 _ _).trans (feq (by decide : ¬ ((1 : Int32) = (0 : Int32)))).1) ?_
                      refine own_xiload X319 hx hby at_367 rfl ?_
                      refine own_xifYes X319 hx hby at_369 (pc0 := 369) (pc' := 376) ((if0 _ _).trans (teq (by decide : (0 : Int32) = (0 : Int32))).1) rfl (by decide) (by decide) ?_
                      refine own_xiconst X319 hx hby at_376 0 rfl ?_
                      refine own_xistore X319 hx hby at_377 (l' := #[own_I p1, own_I p2, own_I p3, own_I 1, own_I 1, own_I 0, own_I vi0, own_I vs0, own_I vh0, own_I (p2 &&& (2097151 : Int32)), own_R b7, own_I 16, own_R b255, own_N, own_N, own_I 0]) rfl ?_
                      refine own_xaload X319 hx hby at_379 rfl rfl ?_
                      refine own_st (fun _ => XS.ifnullYes X319.here hx rfl (pc0 := 381) (pc' := 388) rfl (hb hby at_381) rfl (by decide) (by decide)) ?_
                      refine own_xiconst X319 hx hby at_388 0 rfl ?_
                      refine own_xiload X319 hx hby at_389 rfl ?_
                      refine own_xicmpNo X319 hx hby at_391 (teq (by decide : (0 : Int32) = (0 : Int32))).2 ?_
                      refine own_xaload X319 hx hby at_394 rfl rfl ?_
                      refine own_xaload X319 hx hby at_396 rfl rfl ?_
                      refine own_st (fun _ => Jvm.RoadKit.acmp (g := (mkF m 398 #[own_I p1, own_I p2, own_I p3, own_I 1, own_I 1, own_I 0, own_I vi0, own_I vs0, own_I vh0, own_I (p2 &&& (2097151 : Int32)), own_R b7, own_I 16, own_R b255, own_N, own_N, own_I 0] [.null, .null])) X319 hx rfl rfl rfl (pc0 := 398) (pc' := 401) (same := true) rfl (hb hby at_398) rfl (decide_eq_true rfl) (by decide) (by decide)) ?_
                      refine own_xiconst X319 hx hby at_401 1 rfl ?_
                      refine own_xgoto X319 hx hby at_402 (pc0 := 402) (pc' := 406) rfl (by decide) (by decide) ?_
                      obtain ⟨fs, hr, hrun, hended, hW, hsame⟩ := X319.leave (v := some (.int (nar .boolean (1 : Int32)))) (fun h => by rw [Bd.returns] at h; cases h)
                      refine ⟨_, retN X319 hx (t := .boolean) Bd.returns (by simp) (hb hby at_406) hr, fin _ _ _ hrun hended ?_ ⟨⟨_, rfl⟩, hW, hsame.mono (by decide) (by decide)⟩⟩
                      show Q0 Z p1 p2 p3 xx h0 n0 _ T319.heap _
                      rw [e319]
                      exact ⟨rfl, N319⟩
                    refine own_xiload X248 hx hby at_281 rfl ?_
                    by_cases hc283 : vh0 = (0 : Int32)
                    · refine own_xifYes X248 hx hby at_283 (pc0 := 283) (pc' := 290) ((if0 _ _).trans (teq hc283).1) rfl (by decide) (by decide) ?_
                      refine own_xiconst X248 hx hby at_290 0 rfl ?_
                      exact J291 T248 _ X248 e248 N248 ((0 : Int32)) (Or.inl rfl)
                    refine own_xifNo X248 hx hby at_283 ((if0 _ _).trans (feq hc283).1) ?_
                    refine own_xiconst X248 hx hby at_286 1 rfl ?_
                    refine own_xgoto X248 hx hby at_287 (pc0 := 287) (pc' := 291) rfl (by decide) (by decide) ?_
                    exact J291 T248 _ X248 e248 N248 ((1 : Int32)) (Or.inr rfl)
                  refine own_xiload X244 hx hby at_262 rfl ?_
                  by_cases hc264 : vs0 = (0 : Int32)
                  · refine own_xifYes X244 hx hby at_264 (pc0 := 264) (pc' := 271) ((if0 _ _).trans (teq hc264).1) rfl (by decide) (by decide) ?_
                    refine own_xiconst X244 hx hby at_271 0 rfl ?_
                    exact J272 T244 _ X244 e244 N244 ((0 : Int32)) (Or.inl rfl)
                  refine own_xifNo X244 hx hby at_264 ((if0 _ _).trans (feq hc264).1) ?_
                  refine own_xiconst X244 hx hby at_267 1 rfl ?_
                  refine own_xgoto X244 hx hby at_268 (pc0 := 268) (pc' := 272) rfl (by decide) (by decide) ?_
                  exact J272 T244 _ X244 e244 N244 ((1 : Int32)) (Or.inr rfl)
                show own_Go p e below K (T238.setTop (mkF m 160 #[own_I p1, own_I p2, own_I p3, own_I 1, own_I 1, own_I 1, own_I vi0, own_I vs0, own_I vh0, own_I (p2 &&& (2097151 : Int32)), own_R b7, own_I 4, own_U, own_U, own_U, own_U] []))
                refine own_xiload X238 hx hby at_160 rfl ?_
                refine own_xifNo X238 hx hby at_162 ((if0 _ _).trans (feq (by decide : ¬ ((1 : Int32) = (0 : Int32)))).1) ?_
                refine own_xaload X238 hx hby at_165 rfl rfl ?_
                refine own_xiload X238 hx hby at_167 rfl ?_
                refine own_xiinc X238 hx hby at_169 rfl (l' := #[own_I p1, own_I p2, own_I p3, own_I 1, own_I 1, own_I 1, own_I vi0, own_I vs0, own_I vh0, own_I (p2 &&& (2097151 : Int32)), own_R b7, own_I 5, own_U, own_U, own_U, own_U]) rfl ?_
                refine own_xiconst X238 hx hby at_172 2 rfl ?_
                obtain ⟨cl320, Ar320, qa320, Sa320, Ma320, Ha320, Ga320⟩ := id V238
                have hin320 : ¬ ((4 : Int32) < 0 ∨ cl320.slots.size ≤ ((4 : Int32)).toNatClampNeg) := inb_of Sa320 ⟨by decide, by decide⟩
                obtain ⟨T321, h321, X321, e321, W321, st321⟩ := stB X238 hx hZ e238 Ar320 (j := (4 : Int32)) hin320 (g := (mkF m 173 #[own_I p1, own_I p2, own_I p3, own_I 1, own_I 1, own_I 1, own_I vi0, own_I vs0, own_I vh0, own_I (p2 &&& (2097151 : Int32)), own_R b7, own_I 5, own_U, own_U, own_U, own_U] [(.int 2), (.int 4), (.ref b7)])) rfl rfl (hb hby at_173)
                have V321 : Arv Z h321 b7 k7 .byte (24 : Int32) [(.int ((0 : Int32).toInt8.toInt32)), (.int (wi0.toInt8.toInt32)), (.int ((1 : Int32).toInt8.toInt32)), (.int ((0 : Int32).toInt8.toInt32)), (.int ((2 : Int32).toInt8.toInt32)), (.int 0), (.int 0), (.int 0), (.int 0), (.int 0), (.int 0), (.int 0), (.int 0), (.int 0), (.int 0), (.int 0), (.int 0), (.int 0), (.int 0), (.int 0), (.int 0), (.int 0), (.int 0), (.int 0)] (.int 0) := Arv.set Ar320 qa320 Sa320 Ma320 Ha320 Ga320 (fits_nar_byte _) W321 4 rfl (Nat.le_of_ble_eq_true rfl)
                have f322 := f239.wr W321 g_b7
                have N321 := Fr.snoc X321 N238 g_b7
                have Z321 := Nat.le_trans Z238 (Keep.of_wr W321).1
                refine own_st st321 ?_
                show own_Go p e below K (T321.setTop (mkF m 174 #[own_I p1, own_I p2, own_I p3, own_I 1, own_I 1, own_I 1, own_I vi0, own_I vs0, own_I vh0, own_I (p2 &&& (2097151 : Int32)), own_R b7, own_I 5, own_U, own_U, own_U, own_U] []))
                try clear X238 e238 st321 f239
                refine own_xaload X321 hx hby at_174 rfl rfl ?_
                refine own_xiload X321 hx hby at_176 rfl ?_
                refine own_xiinc X321 hx hby at_178 rfl (l' := #[own_I p1, own_I p2, own_I p3, own_I 1, own_I 1, own_I 1, own_I vi0, own_I vs0, own_I vh0, own_I (p2 &&& (2097151 : Int32)), own_R b7, own_I 6, own_U, own_U, own_U, own_U]) rfl ?_
                refine own_xiload X321 hx hby at_181 rfl ?_
                refine own_xbipush X321 hx hby at_183 127 rfl ?_
                refine own_xiand X321 hx hby at_185 ?_
                refine own_xsipush X321 hx hby at_186 128 rfl ?_
                refine own_xior X321 hx hby at_189 ?_
                refine own_xi2b X321 hx hby at_190 ?_
                obtain ⟨cl323, Ar323, qa323, Sa323, Ma323, Ha323, Ga323⟩ := id V321
                have hin323 : ¬ ((5 : Int32) < 0 ∨ cl323.slots.size ≤ ((5 : Int32)).toNatClampNeg) := inb_of Sa323 ⟨by decide, by decide⟩
                obtain ⟨T324, h324, X324, e324, W324, st324⟩ := stB X321 hx hZ e321 Ar323 (j := (5 : Int32)) hin323 (g := (mkF m 191 #[own_I p1, own_I p2, own_I p3, own_I 1, own_I 1, own_I 1, own_I vi0, own_I vs0, own_I vh0, own_I (p2 &&& (2097151 : Int32)), own_R b7, own_I 6, own_U, own_U, own_U, own_U] [(.int ((((p2 &&& (2097151 : Int32)) &&& (127 : Int32)) ||| (128 : Int32)).toInt8.toInt32)), (.int 5), (.ref b7)])) rfl rfl (hb hby at_191)
                have id324 : nar .byte ((((p2 &&& (2097151 : Int32)) &&& (127 : Int32)) ||| (128 : Int32)).toInt8.toInt32) = ((((p2 &&& (2097151 : Int32)) &&& (127 : Int32)) ||| (128 : Int32)).toInt8.toInt32) := (own_nb _)
                rw [id324] at W324
                have V324 : Arv Z h324 b7 k7 .byte (24 : Int32) [(.int ((0 : Int32).toInt8.toInt32)), (.int (wi0.toInt8.toInt32)), (.int ((1 : Int32).toInt8.toInt32)), (.int ((0 : Int32).toInt8.toInt32)), (.int ((2 : Int32).toInt8.toInt32)), (.int ((((p2 &&& (2097151 : Int32)) &&& (127 : Int32)) ||| (128 : Int32)).toInt8.toInt32)), (.int 0), (.int 0), (.int 0), (.int 0), (.int 0), (.int 0), (.int 0), (.int 0), (.int 0), (.int 0), (.int 0), (.int 0), (.int 0), (.int 0), (.int 0), (.int 0), (.int 0), (.int 0)] (.int 0) := Arv.set Ar323 qa323 Sa323 Ma323 Ha323 Ga323 (own_fit id324) W324 5 rfl (Nat.le_of_ble_eq_true rfl)
                have f325 := f322.wr W324 g_b7
                have N324 := Fr.snoc X324 N321 g_b7
                have Z324 := Nat.le_trans Z321 (Keep.of_wr W324).1
                refine own_st st324 ?_
                show own_Go p e below K (T324.setTop (mkF m 192 #[own_I p1, own_I p2, own_I p3, own_I 1, own_I 1, own_I 1, own_I vi0, own_I vs0, own_I vh0, own_I (p2 &&& (2097151 : Int32)), own_R b7, own_I 6, own_U, own_U, own_U, own_U] []))
                try clear X321 e321 st324 f322
                refine own_xaload X324 hx hby at_192 rfl rfl ?_
                refine own_xiload X324 hx hby at_194 rfl ?_
                refine own_xiinc X324 hx hby at_196 rfl (l' := #[own_I p1, own_I p2, own_I p3, own_I 1, own_I 1, own_I 1, own_I vi0, own_I vs0, own_I vh0, own_I (p2 &&& (2097151 : Int32)), own_R b7, own_I 7, own_U, own_U, own_U, own_U]) rfl ?_
                refine own_xiload X324 hx hby at_199 rfl ?_
                refine own_xbipush X324 hx hby at_201 7 rfl ?_
                refine own_xiushr X324 hx hby at_203 ?_
                refine own_xbipush X324 hx hby at_204 127 rfl ?_
                refine own_xiand X324 hx hby at_206 ?_
                refine own_xsipush X324 hx hby at_207 128 rfl ?_
                refine own_xior X324 hx hby at_210 ?_
                refine own_xi2b X324 hx hby at_211 ?_
                obtain ⟨cl326, Ar326, qa326, Sa326, Ma326, Ha326, Ga326⟩ := id V324
                have hin326 : ¬ ((6 : Int32) < 0 ∨ cl326.slots.size ≤ ((6 : Int32)).toNatClampNeg) := inb_of Sa326 ⟨by decide, by decide⟩
                obtain ⟨T327, h327, X327, e327, W327, st327⟩ := stB X324 hx hZ e324 Ar326 (j := (6 : Int32)) hin326 (g := (mkF m 212 #[own_I p1, own_I p2, own_I p3, own_I 1, own_I 1, own_I 1, own_I vi0, own_I vs0, own_I vh0, own_I (p2 &&& (2097151 : Int32)), own_R b7, own_I 7, own_U, own_U, own_U, own_U] [(.int ((((((p2 &&& (2097151 : Int32)).toUInt32 >>> ((7 : Int32) &&& 31).toUInt32).toInt32) &&& (127 : Int32)) ||| (128 : Int32)).toInt8.toInt32)), (.int 6), (.ref b7)])) rfl rfl (hb hby at_212)
                have id327 : nar .byte ((((((p2 &&& (2097151 : Int32)).toUInt32 >>> ((7 : Int32) &&& 31).toUInt32).toInt32) &&& (127 : Int32)) ||| (128 : Int32)).toInt8.toInt32) = ((((((p2 &&& (2097151 : Int32)).toUInt32 >>> ((7 : Int32) &&& 31).toUInt32).toInt32) &&& (127 : Int32)) ||| (128 : Int32)).toInt8.toInt32) := (own_nb _)
                rw [id327] at W327
                have V327 : Arv Z h327 b7 k7 .byte (24 : Int32) [(.int ((0 : Int32).toInt8.toInt32)), (.int (wi0.toInt8.toInt32)), (.int ((1 : Int32).toInt8.toInt32)), (.int ((0 : Int32).toInt8.toInt32)), (.int ((2 : Int32).toInt8.toInt32)), (.int ((((p2 &&& (2097151 : Int32)) &&& (127 : Int32)) ||| (128 : Int32)).toInt8.toInt32)), (.int ((((((p2 &&& (2097151 : Int32)).toUInt32 >>> ((7 : Int32) &&& 31).toUInt32).toInt32) &&& (127 : Int32)) ||| (128 : Int32)).toInt8.toInt32)), (.int 0), (.int 0), (.int 0), (.int 0), (.int 0), (.int 0), (.int 0), (.int 0), (.int 0), (.int 0), (.int 0), (.int 0), (.int 0), (.int 0), (.int 0), (.int 0), (.int 0)] (.int 0) := Arv.set Ar326 qa326 Sa326 Ma326 Ha326 Ga326 (own_fit id327) W327 6 rfl (Nat.le_of_ble_eq_true rfl)
                have f328 := f325.wr W327 g_b7
                have N327 := Fr.snoc X327 N324 g_b7
                have Z327 := Nat.le_trans Z324 (Keep.of_wr W327).1
                refine own_st st327 ?_
                show own_Go p e below K (T327.setTop (mkF m 213 #[own_I p1, own_I p2, own_I p3, own_I 1, own_I 1, own_I 1, own_I vi0, own_I vs0, own_I vh0, own_I (p2 &&& (2097151 : Int32)), own_R b7, own_I 7, own_U, own_U, own_U, own_U] []))
                try clear X324 e324 st327 f325
                refine own_xaload X327 hx hby at_213 rfl rfl ?_
                refine own_xiload X327 hx hby at_215 rfl ?_
                refine own_xiinc X327 hx hby at_217 rfl (l' := #[own_I p1, own_I p2, own_I p3, own_I 1, own_I 1, own_I 1, own_I vi0, own_I vs0, own_I vh0, own_I (p2 &&& (2097151 : Int32)), own_R b7, own_I 8, own_U, own_U, own_U, own_U]) rfl ?_
                refine own_xiload X327 hx hby at_220 rfl ?_
                refine own_xbipush X327 hx hby at_222 14 rfl ?_
                refine own_xiushr X327 hx hby at_224 ?_
                refine own_xi2b X327 hx hby at_225 ?_
                obtain ⟨cl329, Ar329, qa329, Sa329, Ma329, Ha329, Ga329⟩ := id V327
                have hin329 : ¬ ((7 : Int32) < 0 ∨ cl329.slots.size ≤ ((7 : Int32)).toNatClampNeg) := inb_of Sa329 ⟨by decide, by decide⟩
                obtain ⟨T330, h330, X330, e330, W330, st330⟩ := stB X327 hx hZ e327 Ar329 (j := (7 : Int32)) hin329 (g := (mkF m 226 #[own_I p1, own_I p2, own_I p3, own_I 1, own_I 1, own_I 1, own_I vi0, own_I vs0, own_I vh0, own_I (p2 &&& (2097151 : Int32)), own_R b7, own_I 8, own_U, own_U, own_U, own_U] [(.int ((((p2 &&& (2097151 : Int32)).toUInt32 >>> ((14 : Int32) &&& 31).toUInt32).toInt32).toInt8.toInt32)), (.int 7), (.ref b7)])) rfl rfl (hb hby at_226)
                have id330 : nar .byte ((((p2 &&& (2097151 : Int32)).toUInt32 >>> ((14 : Int32) &&& 31).toUInt32).toInt32).toInt8.toInt32) = ((((p2 &&& (2097151 : Int32)).toUInt32 >>> ((14 : Int32) &&& 31).toUInt32).toInt32).toInt8.toInt32) := (own_nb _)
                rw [id330] at W330
                have V330 : Arv Z h330 b7 k7 .byte (24 : Int32) [(.int ((0 : Int32).toInt8.toInt32)), (.int (wi0.toInt8.toInt32)), (.int ((1 : Int32).toInt8.toInt32)), (.int ((0 : Int32).toInt8.toInt32)), (.int ((2 : Int32).toInt8.toInt32)), (.int ((((p2 &&& (2097151 : Int32)) &&& (127 : Int32)) ||| (128 : Int32)).toInt8.toInt32)), (.int ((((((p2 &&& (2097151 : Int32)).toUInt32 >>> ((7 : Int32) &&& 31).toUInt32).toInt32) &&& (127 : Int32)) ||| (128 : Int32)).toInt8.toInt32)), (.int ((((p2 &&& (2097151 : Int32)).toUInt32 >>> ((14 : Int32) &&& 31).toUInt32).toInt32).toInt8.toInt32)), (.int 0), (.int 0), (.int 0), (.int 0), (.int 0), (.int 0), (.int 0), (.int 0), (.int 0), (.int 0), (.int 0), (.int 0), (.int 0), (.int 0), (.int 0), (.int 0)] (.int 0) := Arv.set Ar329 qa329 Sa329 Ma329 Ha329 Ga329 (own_fit id330) W330 7 rfl (Nat.le_of_ble_eq_true rfl)
                have f331 := f328.wr W330 g_b7
                have N330 := Fr.snoc X330 N327 g_b7
                have Z330 := Nat.le_trans Z327 (Keep.of_wr W330).1
                refine own_st st330 ?_
                show own_Go p e below K (T330.setTop (mkF m 227 #[own_I p1, own_I p2, own_I p3, own_I 1, own_I 1, own_I 1, own_I vi0, own_I vs0, own_I vh0, own_I (p2 &&& (2097151 : Int32)), own_R b7, own_I 8, own_U, own_U, own_U, own_U] []))
                try clear X327 e327 st330 f328
                refine own_xgoto X330 hx hby at_227 (pc0 := 227) (pc' := 239) rfl (by decide) (by decide) ?_
                refine own_xaload X330 hx hby at_239 rfl rfl ?_
                refine own_xiload X330 hx hby at_241 rfl ?_
                refine own_xiinc X330 hx hby at_243 rfl (l' := #[own_I p1, own_I p2, own_I p3, own_I 1, own_I 1, own_I 1, own_I vi0, own_I vs0, own_I vh0, own_I (p2 &&& (2097151 : Int32)), own_R b7, own_I 9, own_U, own_U, own_U, own_U]) rfl ?_
                refine own_xiloadN X330 hx hby at_246 rfl ?_
                refine own_xbipush X330 hx hby at_247 127 rfl ?_
                refine own_xiand X330 hx hby at_249 ?_
                refine own_xi2b X330 hx hby at_250 ?_
                obtain ⟨cl332, Ar332, qa332, Sa332, Ma332, Ha332, Ga332⟩ := id V330
                have hin332 : ¬ ((8 : Int32) < 0 ∨ cl332.slots.size ≤ ((8 : Int32)).toNatClampNeg) := inb_of Sa332 ⟨by decide, by decide⟩
                obtain ⟨T333, h333, X333, e333, W333, st333⟩ := stB X330 hx hZ e330 Ar332 (j := (8 : Int32)) hin332 (g := (mkF m 251 #[own_I p1, own_I p2, own_I p3, own_I 1, own_I 1, own_I 1, own_I vi0, own_I vs0, own_I vh0, own_I (p2 &&& (2097151 : Int32)), own_R b7, own_I 9, own_U, own_U, own_U, own_U] [(.int ((p3 &&& (127 : Int32)).toInt8.toInt32)), (.int 8), (.ref b7)])) rfl rfl (hb hby at_251)
                have id333 : nar .byte ((p3 &&& (127 : Int32)).toInt8.toInt32) = ((p3 &&& (127 : Int32)).toInt8.toInt32) := (own_nb _)
                rw [id333] at W333
                have V333 : Arv Z h333 b7 k7 .byte (24 : Int32) [(.int ((0 : Int32).toInt8.toInt32)), (.int (wi0.toInt8.toInt32)), (.int ((1 : Int32).toInt8.toInt32)), (.int ((0 : Int32).toInt8.toInt32)), (.int ((2 : Int32).toInt8.toInt32)), (.int ((((p2 &&& (2097151 : Int32)) &&& (127 : Int32)) ||| (128 : Int32)).toInt8.toInt32)), (.int ((((((p2 &&& (2097151 : Int32)).toUInt32 >>> ((7 : Int32) &&& 31).toUInt32).toInt32) &&& (127 : Int32)) ||| (128 : Int32)).toInt8.toInt32)), (.int ((((p2 &&& (2097151 : Int32)).toUInt32 >>> ((14 : Int32) &&& 31).toUInt32).toInt32).toInt8.toInt32)), (.int ((p3 &&& (127 : Int32)).toInt8.toInt32)), (.int 0), (.int 0), (.int 0), (.int 0), (.int 0), (.int 0), (.int 0), (.int 0), (.int 0), (.int 0), (.int 0), (.int 0), (.int 0), (.int 0), (.int 0)] (.int 0) := Arv.set Ar332 qa332 Sa332 Ma332 Ha332 Ga332 (own_fit id333) W333 8 rfl (Nat.le_of_ble_eq_true rfl)
                have f334 := f331.wr W333 g_b7
                have N333 := Fr.snoc X333 N330 g_b7
                have Z333 := Nat.le_trans Z330 (Keep.of_wr W333).1
                refine own_st st333 ?_
                show own_Go p e below K (T333.setTop (mkF m 252 #[own_I p1, own_I p2, own_I p3, own_I 1, own_I 1, own_I 1, own_I vi0, own_I vs0, own_I vh0, own_I (p2 &&& (2097151 : Int32)), own_R b7, own_I 9, own_U, own_U, own_U, own_U] []))
                try clear X330 e330 st333 f331
                refine own_xiinc X333 hx hby at_252 rfl (l' := #[own_I p1, own_I p2, own_I p3, own_I 1, own_I 1, own_I 1, own_I vi0, own_I vs0, own_I vh0, own_I (p2 &&& (2097151 : Int32)), own_R b7, own_I 17, own_U, own_U, own_U, own_U]) rfl ?_
                refine own_xaload X333 hx hby at_255 rfl rfl ?_
                refine own_xiload X333 hx hby at_257 rfl ?_
                refine own_xiinc X333 hx hby at_259 rfl (l' := #[own_I p1, own_I p2, own_I p3, own_I 1, own_I 1, own_I 1, own_I vi0, own_I vs0, own_I vh0, own_I (p2 &&& (2097151 : Int32)), own_R b7, own_I 18, own_U, own_U, own_U, own_U]) rfl ?_
                have J272 : ∀ (T' : State) (locs' : List Loc) (X' : Stand p l e room_1 s m #[(.int p1), (.int p2), (.int p3)] below meth c T' locs' 1 24) (e' : T'.heap = h333) (N' : Fr n0 locs') (wq0 : Int32), (wq0 = 0 ∨ wq0 = 1) → own_Go p e below K (T'.setTop (mkF m 272 #[own_I p1, own_I p2, own_I p3, own_I 1, own_I 1, own_I 1, own_I vi0, own_I vs0, own_I vh0, own_I (p2 &&& (2097151 : Int32)), own_R b7, own_I 18, own_U, own_U, own_U, own_U] [(.int wq0), (.int 17), (.ref b7)])) := by
                  intro T335 locs335 X335 e335 N335 wq0 hj_wq
                  refine own_xi2b X335 hx hby at_272 ?_
                  obtain ⟨cl336, Ar336, qa336, Sa336, Ma336, Ha336, Ga336⟩ := id V333
                  have hin336 : ¬ ((17 : Int32) < 0 ∨ cl336.slots.size ≤ ((17 : Int32)).toNatClampNeg) := inb_of Sa336 ⟨by decide, by decide⟩
                  obtain ⟨T337, h337, X337, e337, W337, st337⟩ := stB X335 hx hZ e335 Ar336 (j := (17 : Int32)) hin336 (g := (mkF m 273 #[own_I p1, own_I p2, own_I p3, own_I 1, own_I 1, own_I 1, own_I vi0, own_I vs0, own_I vh0, own_I (p2 &&& (2097151 : Int32)), own_R b7, own_I 18, own_U, own_U, own_U, own_U] [(.int (wq0.toInt8.toInt32)), (.int 17), (.ref b7)])) rfl rfl (hb hby at_273)
                  have id337 : nar .byte (wq0.toInt8.toInt32) = (wq0.toInt8.toInt32) := (own_nb _)
                  rw [id337] at W337
                  have V337 : Arv Z h337 b7 k7 .byte (24 : Int32) [(.int ((0 : Int32).toInt8.toInt32)), (.int (wi0.toInt8.toInt32)), (.int ((1 : Int32).toInt8.toInt32)), (.int ((0 : Int32).toInt8.toInt32)), (.int ((2 : Int32).toInt8.toInt32)), (.int ((((p2 &&& (2097151 : Int32)) &&& (127 : Int32)) ||| (128 : Int32)).toInt8.toInt32)), (.int ((((((p2 &&& (2097151 : Int32)).toUInt32 >>> ((7 : Int32) &&& 31).toUInt32).toInt32) &&& (127 : Int32)) ||| (128 : Int32)).toInt8.toInt32)), (.int ((((p2 &&& (2097151 : Int32)).toUInt32 >>> ((14 : Int32) &&& 31).toUInt32).toInt32).toInt8.toInt32)), (.int ((p3 &&& (127 : Int32)).toInt8.toInt32)), (.int 0), (.int 0), (.int 0), (.int 0), (.int 0), (.int 0), (.int 0), (.int 0), (.int (wq0.toInt8.toInt32)), (.int 0), (.int 0), (.int 0), (.int 0), (.int 0), (.int 0)] (.int 0) := Arv.set Ar336 qa336 Sa336 Ma336 Ha336 Ga336 (own_fit id337) W337 17 rfl (Nat.le_of_ble_eq_true rfl)
                  have f338 := f334.wr W337 g_b7
                  have N337 := Fr.snoc X337 N335 g_b7
                  have Z337 := Nat.le_trans Z333 (Keep.of_wr W337).1
                  refine own_st st337 ?_
                  show own_Go p e below K (T337.setTop (mkF m 274 #[own_I p1, own_I p2, own_I p3, own_I 1, own_I 1, own_I 1, own_I vi0, own_I vs0, own_I vh0, own_I (p2 &&& (2097151 : Int32)), own_R b7, own_I 18, own_U, own_U, own_U, own_U] []))
                  try clear X335 e335 st337 f334
                  refine own_xaload X337 hx hby at_274 rfl rfl ?_
                  refine own_xiload X337 hx hby at_276 rfl ?_
                  refine own_xiinc X337 hx hby at_278 rfl (l' := #[own_I p1, own_I p2, own_I p3, own_I 1, own_I 1, own_I 1, own_I vi0, own_I vs0, own_I vh0, own_I (p2 &&& (2097151 : Int32)), own_R b7, own_I 19, own_U, own_U, own_U, own_U]) rfl ?_
                  have J291 : ∀ (T' : State) (locs' : List Loc) (X' : Stand p l e room_1 s m #[(.int p1), (.int p2), (.int p3)] below meth c T' locs' 1 24) (e' : T'.heap = h337) (N' : Fr n0 locs') (wh0 : Int32), (wh0 = 0 ∨ wh0 = 1) → own_Go p e below K (T'.setTop (mkF m 291 #[own_I p1, own_I p2, own_I p3, own_I 1, own_I 1, own_I 1, own_I vi0, own_I vs0, own_I vh0, own_I (p2 &&& (2097151 : Int32)), own_R b7, own_I 19, own_U, own_U, own_U, own_U] [(.int wh0), (.int 18), (.ref b7)])) := by
                    intro T339 locs339 X339 e339 N339 wh0 hj_wh
                    refine own_xi2b X339 hx hby at_291 ?_
                    obtain ⟨cl340, Ar340, qa340, Sa340, Ma340, Ha340, Ga340⟩ := id V337
                    have hin340 : ¬ ((18 : Int32) < 0 ∨ cl340.slots.size ≤ ((18 : Int32)).toNatClampNeg) := inb_of Sa340 ⟨by decide, by decide⟩
                    obtain ⟨T341, h341, X341, e341, W341, st341⟩ := stB X339 hx hZ e339 Ar340 (j := (18 : Int32)) hin340 (g := (mkF m 292 #[own_I p1, own_I p2, own_I p3, own_I 1, own_I 1, own_I 1, own_I vi0, own_I vs0, own_I vh0, own_I (p2 &&& (2097151 : Int32)), own_R b7, own_I 19, own_U, own_U, own_U, own_U] [(.int (wh0.toInt8.toInt32)), (.int 18), (.ref b7)])) rfl rfl (hb hby at_292)
                    have id341 : nar .byte (wh0.toInt8.toInt32) = (wh0.toInt8.toInt32) := (own_nb _)
                    rw [id341] at W341
                    have V341 : Arv Z h341 b7 k7 .byte (24 : Int32) [(.int ((0 : Int32).toInt8.toInt32)), (.int (wi0.toInt8.toInt32)), (.int ((1 : Int32).toInt8.toInt32)), (.int ((0 : Int32).toInt8.toInt32)), (.int ((2 : Int32).toInt8.toInt32)), (.int ((((p2 &&& (2097151 : Int32)) &&& (127 : Int32)) ||| (128 : Int32)).toInt8.toInt32)), (.int ((((((p2 &&& (2097151 : Int32)).toUInt32 >>> ((7 : Int32) &&& 31).toUInt32).toInt32) &&& (127 : Int32)) ||| (128 : Int32)).toInt8.toInt32)), (.int ((((p2 &&& (2097151 : Int32)).toUInt32 >>> ((14 : Int32) &&& 31).toUInt32).toInt32).toInt8.toInt32)), (.int ((p3 &&& (127 : Int32)).toInt8.toInt32)), (.int 0), (.int 0), (.int 0), (.int 0), (.int 0), (.int 0), (.int 0), (.int 0), (.int (wq0.toInt8.toInt32)), (.int (wh0.toInt8.toInt32)), (.int 0), (.int 0), (.int 0), (.int 0), (.int 0)] (.int 0) := Arv.set Ar340 qa340 Sa340 Ma340 Ha340 Ga340 (own_fit id341) W341 18 rfl (Nat.le_of_ble_eq_true rfl)
                    have f342 := f338.wr W341 g_b7
                    have N341 := Fr.snoc X341 N339 g_b7
                    have Z341 := Nat.le_trans Z337 (Keep.of_wr W341).1
                    refine own_st st341 ?_
                    show own_Go p e below K (T341.setTop (mkF m 293 #[own_I p1, own_I p2, own_I p3, own_I 1, own_I 1, own_I 1, own_I vi0, own_I vs0, own_I vh0, own_I (p2 &&& (2097151 : Int32)), own_R b7, own_I 19, own_U, own_U, own_U, own_U] []))
                    try clear X339 e339 st341 f338
                    obtain ⟨ys, hys⟩ : ∃ z : List Int32, z = [((0 : Int32).toInt8.toInt32), (wi0.toInt8.toInt32), ((1 : Int32).toInt8.toInt32), ((0 : Int32).toInt8.toInt32), ((2 : Int32).toInt8.toInt32), ((((p2 &&& (2097151 : Int32)) &&& (127 : Int32)) ||| (128 : Int32)).toInt8.toInt32), ((((((p2 &&& (2097151 : Int32)).toUInt32 >>> ((7 : Int32) &&& 31).toUInt32).toInt32) &&& (127 : Int32)) ||| (128 : Int32)).toInt8.toInt32), ((((p2 &&& (2097151 : Int32)).toUInt32 >>> ((14 : Int32) &&& 31).toUInt32).toInt32).toInt8.toInt32), ((p3 &&& (127 : Int32)).toInt8.toInt32), (0 : Int32), (0 : Int32), (0 : Int32), (0 : Int32), (0 : Int32), (0 : Int32), (0 : Int32), (0 : Int32), (wq0.toInt8.toInt32), (wh0.toInt8.toInt32), (0 : Int32), (0 : Int32), (0 : Int32), (0 : Int32), (0 : Int32)] := ⟨_, rfl⟩
                    have V343 : Arv Z h341 b7 k7 .byte (24 : Int32) (ys.map Value.int) (.int 0) := by rw [hys]; exact V341
                    have y0 : ys.getD 0 0 = (0 : Int32) := by rw [hys]; exact (by decide : ((0 : Int32).toInt8.toInt32) = (0 : Int32))
                    have y1 : ys.getD 1 0 = (wi0.toInt8.toInt32) := by rw [hys]; rfl
                    have y2 : ys.getD 2 0 = (1 : Int32) := by rw [hys]; exact (by decide : ((1 : Int32).toInt8.toInt32) = (1 : Int32))
                    have y3 : ys.getD 3 0 = (0 : Int32) := by rw [hys]; exact (by decide : ((0 : Int32).toInt8.toInt32) = (0 : Int32))
                    have y4 : ys.getD 4 0 = (2 : Int32) := by rw [hys]; exact (by decide : ((2 : Int32).toInt8.toInt32) = (2 : Int32))
                    have y5 : ys.getD 5 0 = ((((p2 &&& (2097151 : Int32)) &&& (127 : Int32)) ||| (128 : Int32)).toInt8.toInt32) := by rw [hys]; rfl
                    have y6 : ys.getD 6 0 = ((((((p2 &&& (2097151 : Int32)).toUInt32 >>> ((7 : Int32) &&& 31).toUInt32).toInt32) &&& (127 : Int32)) ||| (128 : Int32)).toInt8.toInt32) := by rw [hys]; rfl
                    have y7 : ys.getD 7 0 = ((((p2 &&& (2097151 : Int32)).toUInt32 >>> ((14 : Int32) &&& 31).toUInt32).toInt32).toInt8.toInt32) := by rw [hys]; rfl
                    have y8 : ys.getD 8 0 = ((p3 &&& (127 : Int32)).toInt8.toInt32) := by rw [hys]; rfl
                    have y9 : ys.getD 9 0 = (0 : Int32) := by rw [hys]; rfl
                    have y10 : ys.getD 10 0 = (0 : Int32) := by rw [hys]; rfl
                    have y11 : ys.getD 11 0 = (0 : Int32) := by rw [hys]; rfl
                    have y12 : ys.getD 12 0 = (0 : Int32) := by rw [hys]; rfl
                    have y13 : ys.getD 13 0 = (0 : Int32) := by rw [hys]; rfl
                    have y14 : ys.getD 14 0 = (0 : Int32) := by rw [hys]; rfl
                    have y15 : ys.getD 15 0 = (0 : Int32) := by rw [hys]; rfl
                    have y16 : ys.getD 16 0 = (0 : Int32) := by rw [hys]; rfl
                    have y17 : ys.getD 17 0 = (wq0.toInt8.toInt32) := by rw [hys]; rfl
                    have y18 : ys.getD 18 0 = (wh0.toInt8.toInt32) := by rw [hys]; rfl
                    have h1i := own_i8b hj_wi
                    have h1s := own_i8b hj_wq
                    have h1h := own_i8b hj_wh
                    refine own_xiloadN X341 hx hby at_293 rfl ?_
                    refine own_xifNo X341 hx hby at_294 ((if0 _ _).trans (feq (by decide : ¬ ((1 : Int32) = (0 : Int32)))).1) ?_
                    obtain ⟨T344, h344, X344, e344, E344, A344, D344, -, st344⟩ := newO X341 hx hZ hown (own_w hw 2 rfl) (own_w hw 3 rfl) (own_w hw 4 rfl) e341 (g := (mkF m 297 #[own_I p1, own_I p2, own_I p3, own_I 1, own_I 1, own_I 1, own_I vi0, own_I vs0, own_I vh0, own_I (p2 &&& (2097151 : Int32)), own_R b7, own_I 19, own_U, own_U, own_U, own_U] [])) rfl (hb hby at_297) (by decide) (by decide)
                    obtain ⟨b344, g344⟩ : ∃ z, z = h341.size := ⟨_, rfl⟩
                    rw [← g344] at A344 D344 st344
                    have ne_b7_b344 : b7 ≠ b344 := Nat.ne_of_lt (Nat.lt_of_lt_of_le V343.lt (Nat.le_of_eq g344.symm))
                    have g_b344 : n0 ≤ b344 := Nat.le_trans Z341 (Nat.le_of_eq g344.symm)
                    have f345 := f342.ext E344
                    have f346 := V343.ext E344
                    have f347 : Fld Z h344 b344 own_cL "lastFoldedDay" "J" (.long 0) := D344 (Or.inl (own_w hw 22 rfl)) (ty := .long) (by decide)
                    have f348 : Fld Z h344 b344 own_cL "folding" own_dF .null := D344 (Or.inr (own_w hw 32 rfl)) (ty := (.object own_cF)) (by decide)
                    have f349 : Fld Z h344 b344 own_cL "carried" own_dB .null := D344 (Or.inl (own_w hw 306 rfl)) (ty := (.object own_cB)) (by decide)
                    have Z344 := Nat.le_trans Z341 E344.1
                    refine own_st st344 ?_
                    try clear X341 e341 st344 f342 V343
                    refine own_xdup X344 hx hby at_300 rfl ?_
                    obtain ⟨T350, h350, X350, e350, E350, A350, D350, -, st350⟩ := newO X344 hx hZ hown (own_w hw 141 rfl) (own_w hw 142 rfl) (own_w hw 143 rfl) e344 (g := (mkF m 301 #[own_I p1, own_I p2, own_I p3, own_I 1, own_I 1, own_I 1, own_I vi0, own_I vs0, own_I vh0, own_I (p2 &&& (2097151 : Int32)), own_R b7, own_I 19, own_U, own_U, own_U, own_U] [(.ref b344), (.ref b344)])) rfl (hb hby at_301) (by decide) (by decide)
                    obtain ⟨b350, g350⟩ : ∃ z, z = h344.size := ⟨_, rfl⟩
                    rw [← g350] at A350 D350 st350
                    have ne_b344_b350 : b344 ≠ b350 := Nat.ne_of_lt (Nat.lt_of_lt_of_le A344.lt (Nat.le_of_eq g350.symm))
                    have ne_b7_b350 : b7 ≠ b350 := Nat.ne_of_lt (Nat.lt_of_lt_of_le f346.lt (Nat.le_of_eq g350.symm))
                    have g_b350 : n0 ≤ b350 := Nat.le_trans Z344 (Nat.le_of_eq g350.symm)
                    have f351 := f345.ext E350
                    have f352 := f346.ext E350
                    have f353 := A344.ext E350
                    have f354 := f347.ext E350
                    have f355 := f348.ext E350
                    have f356 := f349.ext E350
                    have f357 : Fld Z h350 b350 own_cF "through" "Ljava/time/LocalDate;" .null := D350 (Or.inr (own_w hw 158 rfl)) (ty := (.object own_cD)) (by decide)
                    have f358 : Fld Z h350 b350 own_cF "funds" "Lcom/example/deferline/deferline/market/Funds;" .null := D350 (Or.inr (own_w hw 160 rfl)) (ty := (.object "com/example/deferline/deferline/market/Funds")) (by decide)
                    have f359 : Fld Z h350 b350 own_cF "calendar" "Lcom/example/deferline/deferline/market/TradingCalendar;" .null := D350 (Or.inr (own_w hw 162 rfl)) (ty := (.object "com/example/deferline/deferline/market/TradingCalendar")) (by decide)
                    have f360 : Fld Z h350 b350 own_cF "participantsKeptWhole" "Ljava/util/Set;" .null := D350 (Or.inr (own_w hw 164 rfl)) (ty := (.object "java/util/Set")) (by decide)
                    have Z350 := Nat.le_trans Z344 E350.1
                    refine own_st st350 ?_
                    try clear X344 e344 st350 f345 f346 A344 f347 f348 f349
                    refine own_xdup X350 hx hby at_304 rfl ?_
                    refine own_xaconstNull X350 hx hby at_305 ?_
                    refine own_xaconstNull X350 hx hby at_306 ?_
                    refine own_xaconstNull X350 hx hby at_307 ?_
                    obtain ⟨_, T361, L361, Lc361, X361, hQ361, Nf361, st361⟩ := own_back (cells := 3) (slots := 50) (rc := 0) (rs := 0) N341 (X350.specialBack hx (y := own_mt17) rfl hown (mvT hZ (own_w hw 144 rfl)) (mvT hZ (own_w hw 145 rfl)) (mvT hZ (own_w hw 146 rfl)) (by decide) (backOf (W := 3) (rm17 l Z a0 hw [] b350 xx h350 n0 Z350 g_b350 A350 f358 f359 f357 f360 f351 (by assumption)) hZ (own_w hw 146 rfl) (own_w hw 143 rfl) (by decide) (by decide)) (g := (mkF m 308 #[own_I p1, own_I p2, own_I p3, own_I 1, own_I 1, own_I 1, own_I vi0, own_I vs0, own_I vh0, own_I (p2 &&& (2097151 : Int32)), own_R b7, own_I 19, own_U, own_U, own_U, own_U] [.null, .null, .null, (.ref b350), (.ref b350), (.ref b344), (.ref b344)])) rfl (by rw [hml]; rfl) (Steps.refl _) (a := b350) (argsL := [.null, .null, .null]) (rest := [(.ref b350), (.ref b344), (.ref b344)]) (lenOf pd_0_12 rfl) rfl (by show 2 * 0 + _ ≤ _; exact Nat.le_of_eq rfl) (hb hby at_308) (fun _ _ => ⟨rfl, e350, (by decide : 3 + 0 ≤ _), (by decide : 50 + 0 ≤ _)⟩))
                    obtain ⟨rfl, N361q, Kq361, p361_0, p361_1, p361_2⟩ := hQ361
                    have N361 := Nf361 N361q
                    have f362 := f351.keep Kq361 (allS (P := fun x => n0 ≤ x) g_b350 all0)
                    have f363 := f352.keep Kq361 (ninS ne_b7_b350 nin0)
                    have f364 := f353.keep Kq361
                    have f365 := f354.keep Kq361 (ninS ne_b344_b350 nin0)
                    have f366 := f355.keep Kq361 (ninS ne_b344_b350 nin0)
                    have f367 := f356.keep Kq361 (ninS ne_b344_b350 nin0)
                    have Z361 := Nat.le_trans Z350 Kq361.1
                    refine own_tr st361 ?_
                    try clear X350 e350 st361 N341 N361q f351 f352 f353 f354 f355 f356
                    refine own_xaconstNull X361 hx hby at_311 ?_
                    refine own_xaconstNull X361 hx hby at_312 ?_
                    refine own_xaconstNull X361 hx hby at_313 ?_
                    obtain ⟨_, T368, L368, Lc368, X368, hQ368, Nf368, st368⟩ := own_back (cells := 3) (slots := 50) (rc := 0) (rs := 0) N361 (X361.specialBack hx (y := own_mt2) rfl hown (mvT hZ (own_w hw 165 rfl)) (mvT hZ (own_w hw 9 rfl)) (mvT hZ (own_w hw 10 rfl)) (by decide) (backOf (W := 1) (rm2f l Z a0 hw [] b344 b350 xx T361.heap n0 Z361 g_b344 f364 f367 f366 f365 f362 (by assumption)) hZ (own_w hw 10 rfl) (own_w hw 4 rfl) (by decide) (by decide)) (g := (mkF m 314 #[own_I p1, own_I p2, own_I p3, own_I 1, own_I 1, own_I 1, own_I vi0, own_I vs0, own_I vh0, own_I (p2 &&& (2097151 : Int32)), own_R b7, own_I 19, own_U, own_U, own_U, own_U] [.null, .null, .null, (.ref b350), (.ref b344), (.ref b344)])) rfl (by rw [hml]; rfl) (Steps.refl _) (a := b344) (argsL := [(.ref b350), .null, .null, .null]) (rest := [(.ref b344)]) (lenOf pd_0_1 rfl) rfl (by show 2 * 0 + _ ≤ _; exact Nat.le_of_eq rfl) (hb hby at_314) (fun _ _ => ⟨rfl, rfl, (by decide : 3 + 0 ≤ _), (by decide : 50 + 0 ≤ _)⟩))
                    obtain ⟨rfl, N368q, Kq368, p368_0, p368_1, p368_2, p368_3⟩ := hQ368
                    have N368 := Nf368 N368q
                    have f369 := f362.keep Kq368 (allS (P := fun x => n0 ≤ x) g_b344 all0)
                    have f370 := f363.keep Kq368 (ninS ne_b7_b344 nin0)
                    have f371 := p361_0.keep Kq368
                    have f372 := p361_1.keep Kq368 (ninS (Ne.symm ne_b344_b350) nin0)
                    have f373 := p361_2.keep Kq368 (ninS (Ne.symm ne_b344_b350) nin0)
                    have Z368 := Nat.le_trans Z361 Kq368.1
                    refine own_tr st368 ?_
                    try clear X361 st368 N361 N368q f362 f363 p361_0 p361_1 p361_2
                    refine own_xgoto X368 hx hby at_317 (pc0 := 317) (pc' := 327) rfl (by decide) (by decide) ?_
                    refine own_xastore X368 hx hby at_327 rfl (l' := #[own_I p1, own_I p2, own_I p3, own_I 1, own_I 1, own_I 1, own_I vi0, own_I vs0, own_I vh0, own_I (p2 &&& (2097151 : Int32)), own_R b7, own_I 19, own_R b344, own_U, own_U, own_U]) rfl ?_
                    refine own_xaload X368 hx hby at_329 rfl rfl ?_
                    obtain ⟨T374, h374, X374, e374, E374, A374, D374, -, st374⟩ := newO X368 hx hZ hown (own_w hw 39 rfl) (own_w hw 40 rfl) (own_w hw 41 rfl) rfl (g := (mkF m 331 #[own_I p1, own_I p2, own_I p3, own_I 1, own_I 1, own_I 1, own_I vi0, own_I vs0, own_I vh0, own_I (p2 &&& (2097151 : Int32)), own_R b7, own_I 19, own_R b344, own_U, own_U, own_U] [(.ref b344)])) rfl (hb hby at_331) (by decide) (by decide)
                    obtain ⟨b374, g374⟩ : ∃ z, z = T368.heap.size := ⟨_, rfl⟩
                    rw [← g374] at A374 D374 st374
                    have ne_b344_b374 : b344 ≠ b374 := Nat.ne_of_lt (Nat.lt_of_lt_of_le p368_0.lt (Nat.le_of_eq g374.symm))
                    have ne_b350_b374 : b350 ≠ b374 := Nat.ne_of_lt (Nat.lt_of_lt_of_le f371.lt (Nat.le_of_eq g374.symm))
                    have ne_b7_b374 : b7 ≠ b374 := Nat.ne_of_lt (Nat.lt_of_lt_of_le f370.lt (Nat.le_of_eq g374.symm))
                    have g_b374 : n0 ≤ b374 := Nat.le_trans Z368 (Nat.le_of_eq g374.symm)
                    have f375 := f369.ext E374
                    have f376 := f370.ext E374
                    have f377 := f371.ext E374
                    have f378 := f372.ext E374
                    have f379 := f373.ext E374
                    have f380 := p368_0.ext E374
                    have f381 := p368_1.ext E374
                    have f382 := p368_2.ext E374
                    have f383 := p368_3.ext E374
                    have f384 : Fld Z h374 b374 own_cR "kept" "Ljava/util/List;" .null := D374 (Or.inr (own_w hw 71 rfl)) (ty := (.object "java/util/List")) (by decide)
                    have f385 : Fld Z h374 b374 own_cR "bytes" "[B" .null := D374 (Or.inr (own_w hw 73 rfl)) (ty := (.array .byte)) (by decide)
                    have f386 : Fld Z h374 b374 own_cR "position" "I" (.int 0) := D374 (Or.inl (own_w hw 75 rfl)) (ty := .int) (by decide)
                    have f387 : Fld Z h374 b374 own_cR "end" "I" (.int 0) := D374 (Or.inr (own_w hw 77 rfl)) (ty := .int) (by decide)
                    have Z374 := Nat.le_trans Z368 E374.1
                    refine own_st st374 ?_
                    try clear X368 st374 f369 f370 f371 f372 f373 p368_0 p368_1 p368_2 p368_3
                    refine own_xdup X374 hx hby at_334 rfl ?_
                    refine own_xaload X374 hx hby at_335 rfl rfl ?_
                    refine own_xiconst X374 hx hby at_337 0 rfl ?_
                    refine own_xaload X374 hx hby at_338 rfl rfl ?_
                    obtain ⟨cl388, Ar388, -, Sa388, Ma388, -, -⟩ := id f376
                    refine own_st (X374.arraylength hx (own_hat e374 Ar388.1) (State.isArrayOf_alike hZ.alike Ar388.2.1) (g := (mkF m 340 #[own_I p1, own_I p2, own_I p3, own_I 1, own_I 1, own_I 1, own_I vi0, own_I vs0, own_I vh0, own_I (p2 &&& (2097151 : Int32)), own_R b7, own_I 19, own_R b344, own_U, own_U, own_U] [(.ref b7), (.int 0), (.ref b7), (.ref b374), (.ref b374), (.ref b344)])) rfl rfl (hb hby at_340)) ?_
                    rw [len_of Sa388 Ma388]
                    obtain ⟨_, T389, L389, Lc389, X389, hQ389, Nf389, st389⟩ := own_back (cells := 4) (slots := 54) (rc := 1) (rs := 3) N368 (X374.specialBack hx (y := own_mt4) rfl hown (mvT hZ (own_w hw 42 rfl)) (mvT hZ (own_w hw 43 rfl)) (mvT hZ (own_w hw 44 rfl)) (by decide) (backOf (W := 2) (rm4 l Z a0 hw [] b374 b7 xx h374 n0 Z374 g_b374 A374 f385 f386 f387 f384 f375 (by assumption)) hZ (own_w hw 44 rfl) (own_w hw 41 rfl) (by decide) (by decide)) (g := (mkF m 341 #[own_I p1, own_I p2, own_I p3, own_I 1, own_I 1, own_I 1, own_I vi0, own_I vs0, own_I vh0, own_I (p2 &&& (2097151 : Int32)), own_R b7, own_I 19, own_R b344, own_U, own_U, own_U] [(.int 24), (.int 0), (.ref b7), (.ref b374), (.ref b374), (.ref b344)])) rfl (by rw [hml]; rfl) (Steps.refl _) (a := b374) (argsL := [(.ref b7), (.int 0), (.int 24)]) (rest := [(.ref b374), (.ref b344)]) (lenOf pd_0_2 rfl) rfl (by show 2 * 0 + _ ≤ _; exact Nat.le_of_eq rfl) (hb hby at_341) (fun _ _ => ⟨rfl, e374, (by decide : 4 + 1 ≤ _), (by decide : 54 + 3 ≤ _)⟩))
                    obtain ⟨kp_389, rfl, N389q, Kq389, p389_0, p389_1, p389_2, p389_3, p389_4, p389_5, p389_6, p389_7, p389_8, pp389_0⟩ := hQ389
                    have N389 := Nf389 N389q
                    have f390 := f375.keep Kq389 (allS (P := fun x => n0 ≤ x) g_b374 all0)
                    have f391 := f376.keep Kq389 (ninS ne_b7_b374 nin0)
                    have f392 := f377.keep Kq389
                    have f393 := f378.keep Kq389 (ninS ne_b350_b374 nin0)
                    have f394 := f379.keep Kq389 (ninS ne_b350_b374 nin0)
                    have f395 := f380.keep Kq389
                    have f396 := f381.keep Kq389 (ninS ne_b344_b374 nin0)
                    have f397 := f382.keep Kq389 (ninS ne_b344_b374 nin0)
                    have f398 := f383.keep Kq389 (ninS ne_b344_b374 nin0)
                    have Z389 := Nat.le_trans Z374 Kq389.1
                    refine own_tr st389 ?_
                    have g_kp_389 : n0 ≤ kp_389 := pp389_0
                    have ne_b344_kp_389 : b344 ≠ kp_389 := Exa.ne f395 p389_5 (by decide)
                    have ne_b374_kp_389 : b374 ≠ kp_389 := Exa.ne p389_0 p389_5 (by decide)
                    have ne_kp_389_b7 : kp_389 ≠ b7 := Exa.neArv p389_5 f391 (own_w hw 47 rfl)
                    have ne_b350_kp_389 : b350 ≠ kp_389 := Exa.ne f392 p389_5 (by decide)
                    try clear X374 e374 st389 N368 N389q f375 f376 f377 f378 f379 f380 f381 f382 f383
                    refine own_xaconstNull X389 hx hby at_344 ?_
                    obtain ⟨cq399, kq399, qv399a, qv399b, qv399c⟩ := isOf hZ rfl f395
                    obtain ⟨_, T399, L399, Lc399, X399, hQ399, Nf399, st399⟩ := own_back (cells := 5) (slots := 57) (rc := 3) (rs := 20) N389 (X389.virtualBack hx (y := own_mt8) (z := own_mt8) hown (mvT hZ (own_w hw 78 rfl)) (mvT hZ (own_w hw 79 rfl)) (notFace_of_selects (args := #[]) (mvT hZ (own_w hw 81 rfl))) (mvT hZ (own_w hw 81 rfl)) (mvT hZ (own_w hw 80 rfl)) (by decide) (backOf (W := 0) (rm8kd l Z a0 hw [] b344 b374 xx (b7) (k7) (ys) (kp_389) ((wi0.toInt8.toInt32)) (((p3 &&& (127 : Int32)).toInt8.toInt32)) ((wq0.toInt8.toInt32)) ((wh0.toInt8.toInt32)) (((((p2 &&& (2097151 : Int32)) &&& (127 : Int32)) ||| (128 : Int32)).toInt8.toInt32)) (((((((p2 &&& (2097151 : Int32)).toUInt32 >>> ((7 : Int32) &&& 31).toUInt32).toInt32) &&& (127 : Int32)) ||| (128 : Int32)).toInt8.toInt32)) (((((p2 &&& (2097151 : Int32)).toUInt32 >>> ((14 : Int32) &&& 31).toUInt32).toInt32).toInt8.toInt32)) (b350) T389.heap n0 Z389 g_b344 g_b374 g_kp_389 ne_b344_b374 (Ne.symm ne_b7_b344) (Ne.symm ne_b7_b374) ne_b344_kp_389 ne_b374_kp_389 ne_kp_389_b7 ne_b344_b350 (Ne.symm ne_b350_b374) f395 f396 f397 f398 p389_0 p389_1 p389_2 p389_3 p389_4 f391 f390 p389_5 p389_6 p389_7 p389_8 f392 f393 f394 (by assumption) y0 y1 y2 y3 y4 y5 y6 y7 y8 y9 y10 y11 y12 y13 y14 y15 y16 y17 y18 h1i h1s h1h (own_lb _) (own_nb _) (own_nb _) (own_nb _) (own_nb _) (own_b0 _) (own_b0 _) (own_b2 _)) hZ (own_w hw 82 rfl) (own_w hw 4 rfl) (by decide) (by decide)) qv399a qv399c (g := (mkF m 345 #[own_I p1, own_I p2, own_I p3, own_I 1, own_I 1, own_I 1, own_I vi0, own_I vs0, own_I vh0, own_I (p2 &&& (2097151 : Int32)), own_R b7, own_I 19, own_R b344, own_U, own_U, own_U] [.null, (.ref b374), (.ref b344)])) rfl (by rw [hml]; rfl) (Steps.refl _) (argsL := [(.ref b374), .null]) (rest := []) (lenOf pd_0_3 rfl) rfl (by show 2 * 0 + _ ≤ _; exact Nat.le_of_eq rfl) (hb hby at_345) (fun _ _ => ⟨rfl, rfl, (by decide : 5 + 3 ≤ _), (by decide : 57 + 20 ≤ _)⟩))
                    obtain ⟨ld_399, cr_399, rfl, N399q, Kq399, p399_0, p399_1, p399_2, pp399_0⟩ := hQ399
                    have N399 := Nf399 N399q
                    have f400 := f390.keep Kq399 (allS (P := fun x => n0 ≤ x) g_b344 (allS (P := fun x => n0 ≤ x) g_b374 (allS (P := fun x => n0 ≤ x) g_kp_389 all0)))
                    have f401 := f391.keep Kq399 (ninS ne_b7_b344 (ninS ne_b7_b374 (ninS (Ne.symm ne_kp_389_b7) nin0)))
                    have f402 := f392.keep Kq399
                    have f403 := f393.keep Kq399 (ninS (Ne.symm ne_b344_b350) (ninS ne_b350_b374 (ninS ne_b350_kp_389 nin0)))
                    have f404 := f394.keep Kq399 (ninS (Ne.symm ne_b344_b350) (ninS ne_b350_b374 (ninS ne_b350_kp_389 nin0)))
                    have f405 := p389_0.keep Kq399
                    have f406 := p389_5.keep Kq399
                    have Z399 := Nat.le_trans Z389 Kq399.1
                    refine own_tr st399 ?_
                    try clear X389 st399 N389 N399q f390 f391 f392 f393 f394 p389_0 p389_5
                    refine own_xaload X399 hx hby at_348 rfl rfl ?_
                    obtain ⟨cq407, kq407, qv407a, qv407b, qv407c⟩ := isOf hZ rfl p399_0
                    obtain ⟨_, T407, L407, Lc407, X407, hQ407, Nf407, st407⟩ := own_back (cells := 8) (slots := 77) (rc := 0) (rs := 0) N399 (X399.virtualBack hx (y := own_mt16) (z := own_mt16) hown (mvT hZ (own_w hw 136 rfl)) (mvT hZ (own_w hw 137 rfl)) (notFace_of_selects (args := #[]) (mvT hZ (own_w hw 139 rfl))) (mvT hZ (own_w hw 139 rfl)) (mvT hZ (own_w hw 138 rfl)) (by decide) (backOf (W := 0) (rm16c l Z a0 hw [] b344 (ld_399) (cr_399) T399.heap n0 Z399 p399_0 p399_1 p399_2 pp399_0) hZ (own_w hw 140 rfl) (own_w hw 4 rfl) (by decide) (by decide)) qv407a qv407c (g := (mkF m 350 #[own_I p1, own_I p2, own_I p3, own_I 1, own_I 1, own_I 1, own_I vi0, own_I vs0, own_I vh0, own_I (p2 &&& (2097151 : Int32)), own_R b7, own_I 19, own_R b344, own_U, own_U, own_U] [(.ref b344)])) rfl (by rw [hml]; rfl) (Steps.refl _) (argsL := []) (rest := []) (lenOf pd_0_11 rfl) rfl (by show 2 * 0 + _ ≤ _; exact Nat.le_of_eq rfl) (hb hby at_350) (fun _ _ => ⟨rfl, rfl, (by decide : 8 + 0 ≤ _), (by decide : 77 + 0 ≤ _)⟩))
                    obtain ⟨rfl, N407q, e407⟩ := hQ407
                    have N407 := Nf407 N407q
                    refine own_tr st407 ?_
                    try clear X399 st407 N399 N407q
                    refine own_xastore X407 hx hby at_353 rfl (l' := #[own_I p1, own_I p2, own_I p3, own_I 1, own_I 1, own_I 1, own_I vi0, own_I vs0, own_I vh0, own_I (p2 &&& (2097151 : Int32)), own_R b7, own_I 19, own_R b344, own_R cr_399, own_U, own_U]) rfl ?_
                    refine own_xaload X407 hx hby at_355 rfl rfl ?_
                    show own_Go p e below K (T407.setTop (mkF m 357 #[own_I p1, own_I p2, own_I p3, own_I 1, own_I 1, own_I 1, own_I vi0, own_I vs0, own_I vh0, own_I (p2 &&& (2097151 : Int32)), own_R b7, own_I 19, own_R b344, own_R cr_399, own_U, own_U] [(.ref b344)]))
                    obtain ⟨cq408, kq408, qv408a, qv408b, qv408c⟩ := isOf hZ e407 p399_0
                    obtain ⟨_, T408, L408, Lc408, X408, hQ408, Nf408, st408⟩ := own_back (cells := 8) (slots := 77) (rc := 0) (rs := 0) N407 (X407.virtualBack hx (y := own_mt16) (z := own_mt16) hown (mvT hZ (own_w hw 136 rfl)) (mvT hZ (own_w hw 137 rfl)) (notFace_of_selects (args := #[]) (mvT hZ (own_w hw 139 rfl))) (mvT hZ (own_w hw 139 rfl)) (mvT hZ (own_w hw 138 rfl)) (by decide) (backOf (W := 0) (rm16c l Z a0 hw [] b344 (ld_399) (cr_399) T399.heap n0 Z399 p399_0 p399_1 p399_2 pp399_0) hZ (own_w hw 140 rfl) (own_w hw 4 rfl) (by decide) (by decide)) qv408a qv408c (g := (mkF m 357 #[own_I p1, own_I p2, own_I p3, own_I 1, own_I 1, own_I 1, own_I vi0, own_I vs0, own_I vh0, own_I (p2 &&& (2097151 : Int32)), own_R b7, own_I 19, own_R b344, own_R cr_399, own_U, own_U] [(.ref b344)])) rfl (by rw [hml]; rfl) (Steps.refl _) (argsL := []) (rest := []) (lenOf pd_0_11 rfl) rfl (by show 2 * 0 + _ ≤ _; exact Nat.le_of_eq rfl) (hb hby at_357) (fun _ _ => ⟨rfl, e407, (by decide : 8 + 0 ≤ _), (by decide : 77 + 0 ≤ _)⟩))
                    obtain ⟨rfl, N408q, e408⟩ := hQ408
                    have N408 := Nf408 N408q
                    refine own_tr st408 ?_
                    try clear X407 e407 st408 N407 N408q
                    refine own_xastore X408 hx hby at_360 rfl (l' := #[own_I p1, own_I p2, own_I p3, own_I 1, own_I 1, own_I 1, own_I vi0, own_I vs0, own_I vh0, own_I (p2 &&& (2097151 : Int32)), own_R b7, own_I 19, own_R b344, own_R cr_399, own_R cr_399, own_U]) rfl ?_
                    refine own_xiload X408 hx hby at_362 rfl ?_
                    refine own_xifNo X408 hx hby at_364 ((if0 _ _).trans (feq (by decide : ¬ ((1 : Int32) = (0 : Int32)))).1) ?_
                    refine own_xiload X408 hx hby at_367 rfl ?_
                    refine own_xifNo X408 hx hby at_369 ((if0 _ _).trans (feq (by decide : ¬ ((1 : Int32) = (0 : Int32)))).1) ?_
                    refine own_xiconst X408 hx hby at_372 1 rfl ?_
                    refine own_xgoto X408 hx hby at_373 (pc0 := 373) (pc' := 377) rfl (by decide) (by decide) ?_
                    refine own_xistore X408 hx hby at_377 (l' := #[own_I p1, own_I p2, own_I p3, own_I 1, own_I 1, own_I 1, own_I vi0, own_I vs0, own_I vh0, own_I (p2 &&& (2097151 : Int32)), own_R b7, own_I 19, own_R b344, own_R cr_399, own_R cr_399, own_I 1]) rfl ?_
                    refine own_xaload X408 hx hby at_379 rfl rfl ?_
                    refine own_st (fun _ => XS.ifnullNo X408.here hx rfl (hb hby at_381) rfl) ?_
                    refine own_xiconst X408 hx hby at_384 1 rfl ?_
                    refine own_xgoto X408 hx hby at_385 (pc0 := 385) (pc' := 389) rfl (by decide) (by decide) ?_
                    refine own_xiload X408 hx hby at_389 rfl ?_
                    refine own_xicmpNo X408 hx hby at_391 (teq (by decide : (1 : Int32) = (1 : Int32))).2 ?_
                    refine own_xaload X408 hx hby at_394 rfl rfl ?_
                    refine own_xaload X408 hx hby at_396 rfl rfl ?_
                    refine own_st (fun _ => Jvm.RoadKit.acmp (g := (mkF m 398 #[own_I p1, own_I p2, own_I p3, own_I 1, own_I 1, own_I 1, own_I vi0, own_I vs0, own_I vh0, own_I (p2 &&& (2097151 : Int32)), own_R b7, own_I 19, own_R b344, own_R cr_399, own_R cr_399, own_I 1] [(.ref cr_399), (.ref cr_399)])) X408 hx rfl rfl rfl (pc0 := 398) (pc' := 401) (same := true) rfl (hb hby at_398) rfl (decide_eq_true rfl) (by decide) (by decide)) ?_
                    refine own_xiconst X408 hx hby at_401 1 rfl ?_
                    refine own_xgoto X408 hx hby at_402 (pc0 := 402) (pc' := 406) rfl (by decide) (by decide) ?_
                    obtain ⟨fs, hr, hrun, hended, hW, hsame⟩ := X408.leave (v := some (.int (nar .boolean (1 : Int32)))) (fun h => by rw [Bd.returns] at h; cases h)
                    refine ⟨_, retN X408 hx (t := .boolean) Bd.returns (by simp) (hb hby at_406) hr, fin _ _ _ hrun hended ?_ ⟨⟨_, rfl⟩, hW, hsame.mono (by decide) (by decide)⟩⟩
                    show Q0 Z p1 p2 p3 xx h0 n0 _ T408.heap _
                    rw [e408]
                    exact ⟨rfl, N408⟩
                  refine own_xiload X337 hx hby at_281 rfl ?_
                  by_cases hc283 : vh0 = (0 : Int32)
                  · refine own_xifYes X337 hx hby at_283 (pc0 := 283) (pc' := 290) ((if0 _ _).trans (teq hc283).1) rfl (by decide) (by decide) ?_
                    refine own_xiconst X337 hx hby at_290 0 rfl ?_
                    exact J291 T337 _ X337 e337 N337 ((0 : Int32)) (Or.inl rfl)
                  refine own_xifNo X337 hx hby at_283 ((if0 _ _).trans (feq hc283).1) ?_
                  refine own_xiconst X337 hx hby at_286 1 rfl ?_
                  refine own_xgoto X337 hx hby at_287 (pc0 := 287) (pc' := 291) rfl (by decide) (by decide) ?_
                  exact J291 T337 _ X337 e337 N337 ((1 : Int32)) (Or.inr rfl)
                refine own_xiload X333 hx hby at_262 rfl ?_
                by_cases hc264 : vs0 = (0 : Int32)
                · refine own_xifYes X333 hx hby at_264 (pc0 := 264) (pc' := 271) ((if0 _ _).trans (teq hc264).1) rfl (by decide) (by decide) ?_
                  refine own_xiconst X333 hx hby at_271 0 rfl ?_
                  exact J272 T333 _ X333 e333 N333 ((0 : Int32)) (Or.inl rfl)
                refine own_xifNo X333 hx hby at_264 ((if0 _ _).trans (feq hc264).1) ?_
                refine own_xiconst X333 hx hby at_267 1 rfl ?_
                refine own_xgoto X333 hx hby at_268 (pc0 := 268) (pc' := 272) rfl (by decide) (by decide) ?_
                exact J272 T333 _ X333 e333 N333 ((1 : Int32)) (Or.inr rfl)
              refine own_xiload X10 hx hby at_115 rfl ?_
              by_cases hc117 : vi0 = (0 : Int32)
              · refine own_xifYes X10 hx hby at_117 (pc0 := 117) (pc' := 124) ((if0 _ _).trans (teq hc117).1) rfl (by decide) (by decide) ?_
                refine own_xiconst X10 hx hby at_124 0 rfl ?_
                exact J125 T10 _ X10 e10 N10 ((0 : Int32)) (Or.inl rfl)
              refine own_xifNo X10 hx hby at_117 ((if0 _ _).trans (feq hc117).1) ?_
              refine own_xiconst X10 hx hby at_120 1 rfl ?_
              refine own_xgoto X10 hx hby at_121 (pc0 := 121) (pc' := 125) rfl (by decide) (by decide) ?_
              exact J125 T10 _ X10 e10 N10 ((1 : Int32)) (Or.inr rfl)
            refine own_xiloadN X5 hx hby at_70 rfl ?_
            refine own_xbipush X5 hx hby at_71 32 rfl ?_
            refine own_xiand X5 hx hby at_73 ?_
            by_cases hc74 : (p1 &&& (32 : Int32)) = (0 : Int32)
            · refine own_xifYes X5 hx hby at_74 (pc0 := 74) (pc' := 81) ((if0 _ _).trans (teq hc74).1) rfl (by decide) (by decide) ?_
              refine own_xiconst X5 hx hby at_81 0 rfl ?_
              exact J82 T5 _ X5 e5 N5 ((0 : Int32)) (Or.inl rfl)
            refine own_xifNo X5 hx hby at_74 ((if0 _ _).trans (feq hc74).1) ?_
            refine own_xiconst X5 hx hby at_77 1 rfl ?_
            refine own_xgoto X5 hx hby at_78 (pc0 := 78) (pc' := 82) rfl (by decide) (by decide) ?_
            exact J82 T5 _ X5 e5 N5 ((1 : Int32)) (Or.inr rfl)
          refine own_xiloadN X4 hx hby at_56 rfl ?_
          refine own_xbipush X4 hx hby at_57 16 rfl ?_
          refine own_xiand X4 hx hby at_59 ?_
          by_cases hc60 : (p1 &&& (16 : Int32)) = (0 : Int32)
          · refine own_xifYes X4 hx hby at_60 (pc0 := 60) (pc' := 67) ((if0 _ _).trans (teq hc60).1) rfl (by decide) (by decide) ?_
            refine own_xiconst X4 hx hby at_67 0 rfl ?_
            exact J68 T4 _ X4 e4 N4 ((0 : Int32)) (Or.inl rfl)
          refine own_xifNo X4 hx hby at_60 ((if0 _ _).trans (feq hc60).1) ?_
          refine own_xiconst X4 hx hby at_63 1 rfl ?_
          refine own_xgoto X4 hx hby at_64 (pc0 := 64) (pc' := 68) rfl (by decide) (by decide) ?_
          exact J68 T4 _ X4 e4 N4 ((1 : Int32)) (Or.inr rfl)
        refine own_xiloadN X3 hx hby at_42 rfl ?_
        refine own_xbipush X3 hx hby at_43 8 rfl ?_
        refine own_xiand X3 hx hby at_45 ?_
        by_cases hc46 : (p1 &&& (8 : Int32)) = (0 : Int32)
        · refine own_xifYes X3 hx hby at_46 (pc0 := 46) (pc' := 53) ((if0 _ _).trans (teq hc46).1) rfl (by decide) (by decide) ?_
          refine own_xiconst X3 hx hby at_53 0 rfl ?_
          exact J54 T3 _ X3 e3 N3 ((0 : Int32)) (Or.inl rfl)
        refine own_xifNo X3 hx hby at_46 ((if0 _ _).trans (feq hc46).1) ?_
        refine own_xiconst X3 hx hby at_49 1 rfl ?_
        refine own_xgoto X3 hx hby at_50 (pc0 := 50) (pc' := 54) rfl (by decide) (by decide) ?_
        exact J54 T3 _ X3 e3 N3 ((1 : Int32)) (Or.inr rfl)
      refine own_xiloadN X2 hx hby at_29 rfl ?_
      refine own_xiconst X2 hx hby at_30 4 rfl ?_
      refine own_xiand X2 hx hby at_31 ?_
      by_cases hc32 : (p1 &&& (4 : Int32)) = (0 : Int32)
      · refine own_xifYes X2 hx hby at_32 (pc0 := 32) (pc' := 39) ((if0 _ _).trans (teq hc32).1) rfl (by decide) (by decide) ?_
        refine own_xiconst X2 hx hby at_39 0 rfl ?_
        exact J40 T2 _ X2 e2 N2 ((0 : Int32)) (Or.inl rfl)
      refine own_xifNo X2 hx hby at_32 ((if0 _ _).trans (feq hc32).1) ?_
      refine own_xiconst X2 hx hby at_35 1 rfl ?_
      refine own_xgoto X2 hx hby at_36 (pc0 := 36) (pc' := 40) rfl (by decide) (by decide) ?_
      exact J40 T2 _ X2 e2 N2 ((1 : Int32)) (Or.inr rfl)
    refine own_xiloadN X1 hx hby at_12 rfl ?_
    by_cases hc13 : vf0 = (0 : Int32)
    · refine own_xifYes X1 hx hby at_13 (pc0 := 13) (pc' := 26) ((if0 _ _).trans (teq hc13).1) rfl (by decide) (by decide) ?_
      refine own_xiconst X1 hx hby at_26 0 rfl ?_
      exact J27 T1 _ X1 e1 N1 ((0 : Int32)) (Or.inl rfl)
    refine own_xifNo X1 hx hby at_13 ((if0 _ _).trans (feq hc13).1) ?_
    refine own_xiloadN X1 hx hby at_16 rfl ?_
    refine own_xiconst X1 hx hby at_17 2 rfl ?_
    refine own_xiand X1 hx hby at_18 ?_
    by_cases hc19 : (p1 &&& (2 : Int32)) = (0 : Int32)
    · refine own_xifYes X1 hx hby at_19 (pc0 := 19) (pc' := 26) ((if0 _ _).trans (teq hc19).1) rfl (by decide) (by decide) ?_
      refine own_xiconst X1 hx hby at_26 0 rfl ?_
      exact J27 T1 _ X1 e1 N1 ((0 : Int32)) (Or.inl rfl)
    refine own_xifNo X1 hx hby at_19 ((if0 _ _).trans (feq hc19).1) ?_
    refine own_xiconst X1 hx hby at_22 1 rfl ?_
    refine own_xgoto X1 hx hby at_23 (pc0 := 23) (pc' := 27) rfl (by decide) (by decide) ?_
    exact J27 T1 _ X1 e1 N1 ((1 : Int32)) (Or.inr ⟨rfl, hj_vf.resolve_left hc13⟩)
  refine own_xiloadN X0 hx hby at_0 rfl ?_
  refine own_xiconst X0 hx hby at_1 1 rfl ?_
  refine own_xiand X0 hx hby at_2 ?_
  by_cases hc3 : (p1 &&& (1 : Int32)) = (0 : Int32)
  · refine own_xifYes X0 hx hby at_3 (pc0 := 3) (pc' := 10) ((if0 _ _).trans (teq hc3).1) rfl (by decide) (by decide) ?_
    refine own_xiconst X0 hx hby at_10 0 rfl ?_
    exact J11 s₁ _ X0 e0 N0 ((0 : Int32)) (Or.inl rfl)
  refine own_xifNo X0 hx hby at_3 ((if0 _ _).trans (feq hc3).1) ?_
  refine own_xiconst X0 hx hby at_6 1 rfl ?_
  refine own_xgoto X0 hx hby at_7 (pc0 := 7) (pc' := 11) rfl (by decide) (by decide) ?_
  exact J11 s₁ _ X0 e0 N0 ((1 : Int32)) (Or.inr rfl)
set_option maxRecDepth 65536 in
set_option maxHeartbeats 40000000 in
theorem comes_1 {Post : Tables → Env → Array Value → State → Outcome → State → Prop} (hpost : ∀ tb e args s v u, (limb_1_1.after args s (.returned v) u = true ∧ limb_1_2.after args s (.returned v) u = true ∧ True) → ReturnedEndW s (.returned v) u (Jvm.fieldLocs frame_1_writes args s ++ Jvm.arrayLocs frame_1_arrays args s ++ Jvm.staticLocs frame_1_statics s) 24 256 → Post tb e args s (.returned v) u) :
    ArmFor flags0 classFile x code maxLocals ret World_1 tables_1 room_1 Calls_1 rest_1 Pre_1 Post := by
  intro l hfl _ _ p e ha hc hk s m args below hf hA hF happ hP
  obtain ⟨hcalls, hrest, hpre⟩ := hP
  obtain ⟨-, -, -, hnamed, -, -, -, hat⟩ := (Spec.applies_iff hf).mp happ
  obtain ⟨hg, hn⟩ := and_e (Cond.before_iff.mp (show (Jvm.Cond.and given_1 narrow_1).before args s = true from hpre))
  obtain ⟨g1, g2⟩ := and_e hg
  obtain ⟨g3, g4⟩ := and_e g2
  obtain ⟨g5, g6⟩ := and_e g4
  obtain ⟨w0, w1, w2, rfl⟩ : ∃ w0 w1 w2 : Value, args = #[w0, w1, w2] := by
    have hs : args.size = 3 := by simpa [Cond.value, given_1] using g1
    obtain ⟨L⟩ := args
    match L, hs with
    | [w0, w1, w2], _ => exact ⟨w0, w1, w2, rfl⟩
  have hw := fun d (hd : d ∈ tables_1) => atoms_spec (ws := Jvm.Cond.code x code maxLocals ret :: tables_1) hat d (List.mem_cons_of_mem _ hd)
  have hfit : Fit s := fun {y c} hc i hi => by
    obtain ⟨ha, rfl⟩ := Array.getElem?_eq_some_iff.mp hc
    have q := List.all_eq_true.mp ((Array.all_eq_true_iff_forall_mem.mp hF) _ (Array.getElem_mem ha)) i (List.mem_range.mpr hi)
    simpa [Array.getElem?_eq_getElem hi] using q
  obtain ⟨hsets, hown0⟩ := atoms_of _ (rest_1_c_eq ▸ (show rest_1_c.before _ s = true from hrest))
  have hr0 := Cond.before_iff.mp hown0
  obtain ⟨i0, ei0⟩ := is_v g3
  obtain rfl : w0 = (.int i0) := Option.some.inj ei0
  obtain ⟨i1, ei1⟩ := is_v g5
  obtain rfl : w1 = (.int i1) := Option.some.inj ei1
  obtain ⟨i2, ei2⟩ := is_v g6
  obtain rfl : w2 = (.int i2) := Option.some.inj ei2
  obtain ⟨xd, evD⟩ := arr_v (Cond.before_iff.mp (hsets _ (List.mem_of_getElem? (i := 6) rfl)))
  have SD := Sta.start evD (Or.inr ⟨(hw _ (List.mem_of_getElem? (i := 48) rfl)), hsets _ (List.mem_of_getElem? (i := 2) rfl)⟩)
  obtain ⟨clD, ArD⟩ := Arr.start evD (Cond.before_iff.mp (hsets _ (List.mem_of_getElem? (i := 6) rfl)))
  obtain ⟨kd, VD⟩ : ∃ kd, Arv s s.heap xd kd (.object "java/lang/Object") (0 : Int32) [] .null := own_emp ArD evD hfit (hsets _ (List.mem_of_getElem? (i := 8) rfl))
  obtain ⟨hn1, hn23⟩ := and_e hn
  obtain ⟨hn2, hn3⟩ := and_e hn23
  obtain ⟨xN, evN⟩ := exa_v hn1
  obtain ⟨xh, evH⟩ := arr_v hn2
  have SN := Sta.start evN (Or.inr ⟨(hw _ (List.mem_of_getElem? (i := 4) rfl)), (hw _ (List.mem_of_getElem? (i := 15) rfl))⟩)
  have SH := Sta.start evH (Or.inr ⟨(hw _ (List.mem_of_getElem? (i := 314) rfl)), (hw _ (List.mem_of_getElem? (i := 320) rfl))⟩)
  obtain ⟨xl, ev_xl⟩ := exa_v (Cond.before_iff.mp (hsets _ (List.mem_of_getElem? (i := 61) rfl)))
  have SL := Sta.start ev_xl (Or.inl (hsets _ (List.mem_of_getElem? (i := 60) rfl)))
  obtain ⟨xS, ev_xS⟩ := exa_v (Cond.before_iff.mp (hsets _ (List.mem_of_getElem? (i := 11) rfl)))
  have SS := Sta.start ev_xS (Or.inl (hsets _ (List.mem_of_getElem? (i := 10) rfl)))
  obtain ⟨xm, ev_xm⟩ := exa_v (Cond.before_iff.mp (hsets _ (List.mem_of_getElem? (i := 18) rfl)))
  have Sm := Sta.start ev_xm (Or.inl (hsets _ (List.mem_of_getElem? (i := 17) rfl)))
  have m0 := Exa.start ev_xm (Cond.before_iff.mp (hsets _ (List.mem_of_getElem? (i := 18) rfl)))
  obtain ⟨xM, ev_xM⟩ := exa_v (Cond.before_iff.mp (hsets _ (List.mem_of_getElem? (i := 24) rfl)))
  have SM := Sta.start ev_xM (Or.inl (hsets _ (List.mem_of_getElem? (i := 23) rfl)))
  have M0 := Exa.start ev_xM (Cond.before_iff.mp (hsets _ (List.mem_of_getElem? (i := 24) rfl)))
  obtain ⟨xio, ev_xio⟩ := exa_v (Cond.before_iff.mp (hsets _ (List.mem_of_getElem? (i := 30) rfl)))
  have Si := Sta.start ev_xio (Or.inl (hsets _ (List.mem_of_getElem? (i := 29) rfl)))
  have Ei := Exa.start ev_xio (Cond.before_iff.mp (hsets _ (List.mem_of_getElem? (i := 30) rfl)))
  obtain ⟨xf, ev_xf⟩ := exa_v (Cond.before_iff.mp (hsets _ (List.mem_of_getElem? (i := 37) rfl)))
  have Sf := Sta.start ev_xf (Or.inl (hsets _ (List.mem_of_getElem? (i := 32) rfl)))
  have g0_ := Exa.start ev_xf (Cond.before_iff.mp (hsets _ (List.mem_of_getElem? (i := 37) rfl)))
  have m1 := Fld.start ((fld_at ev_xm).symm.trans (own_eqi (hsets _ (List.mem_of_getElem? (i := 19) rfl))))
  have m2 := Fld.start ((fld_at ev_xm).symm.trans (own_eqi (hsets _ (List.mem_of_getElem? (i := 20) rfl))))
  have m3 := Fld.start ((fld_at ev_xm).symm.trans (own_eqi (hsets _ (List.mem_of_getElem? (i := 21) rfl))))
  have M1 := Fld.start ((fld_at ev_xM).symm.trans (own_eqi (hsets _ (List.mem_of_getElem? (i := 25) rfl))))
  have M2 := Fld.start ((fld_at ev_xM).symm.trans (own_eqi (hsets _ (List.mem_of_getElem? (i := 26) rfl))))
  have M3 := Fld.start ((fld_at ev_xM).symm.trans (own_eqi (hsets _ (List.mem_of_getElem? (i := 27) rfl))))
  obtain ⟨xr, ev_xr⟩ := exa_v (Cond.before_iff.mp (hsets _ (List.mem_of_getElem? (i := 53) rfl)))
  have g1_ := Fld.start ((fld_at ev_xf).symm.trans ev_xr)
  have g2_ := Exa.start ev_xr (Cond.before_iff.mp (hsets _ (List.mem_of_getElem? (i := 53) rfl)))
  have g3_ := Fld.start ((fld_at ev_xr).symm.trans (own_eql (hsets _ (List.mem_of_getElem? (i := 54) rfl))))
  have g4_ := Fld.start ((fld_at ev_xr).symm.trans (own_eql (hsets _ (List.mem_of_getElem? (i := 57) rfl))))
  obtain ⟨cm_, km_, xw, hm1, hm2, hm3⟩ := hcalls.1
  have HM : own_Mir s xw := ⟨cm_, km_, hm1, hm2, hm3.1⟩
  obtain ⟨fL, cK, HL⟩ := own_lam0 hw
  let own_xx : Nat → Nat := fun i => [xd, kd, xN, xh, xl, xS, xm, xM, xio, xf, xr, xw, fL, cK].getD i 0
  have HP : own_P s own_xx := ⟨SD, VD, SN, SH, SL, SS, Sm, m0, m1, m2, m3, SM, M0, M1, M2, M3, Si, Ei, Sf, g0_, g1_, g2_, g3_, g4_, HM, HL⟩
  obtain ⟨n, o, h1, h2, h3, _, L, rfl, ⟨rfl, N⟩, hq⟩ := rm0 l s _ hw tables_1 i0 i1 i2 own_xx s.heap s.heap.size (Nat.le_refl _) (Old.start s) HP p e ha hc hk s m _ below hf ((Spec.applies_iff_loose hf).mp happ).1 ⟨rfl, State.Warmed39.refl s, rfl⟩ trivial
  refine ⟨n, _, h1, h2, h3, hpost _ _ _ _ _ _ ⟨Cond.after_iff.mpr rfl, Cond.after_iff.mpr (eq_i res_at (Term.int_eval (1)) rfl), trivial⟩ (ReturnedEndW.of_narrow hq.1 hq.2.1 ((hq.2.2.sift fun y hy => Or.inr (N y hy)).mono (by decide) (by decide)))⟩
theorem main_1_1 : Claimed_1_1 := comes_1 fun _ _ _ _ _ _ h hF => ⟨h.1, hF⟩
theorem main_1_2 : Claimed_1_2 := comes_1 fun _ _ _ _ _ _ h hF => ⟨h.2.1, hF⟩
end Jvm.Pilot.@@N@@
namespace Jvm.Pilot.@@N@@
open Jvm Jvm.ClassFile Sem Op Lib Jvm.Free Jvm.Stand Jvm.Pilot.@@N@@.Jvm.D
/-! MADE BY PROGRAM (witnessworld.py) out of the Statement's table words and the real class files: 58 classes; the members and pool entries that the words name. The judged class is class 1, her method 1. -/
namespace start1
open Jvm.ClassFile
def u (s : String) : CpInfo := .utf8 (stringToUtf16 s)
/-- a pool by its gaps: so many unusable entries, then the entry; so many at the end -/
def gap : Nat → List CpInfo → List CpInfo
  | 0, r => r
  | n + 1, r => .unusable :: gap n r
def poolList (es : List (Nat × CpInfo)) (last : Nat) : List CpInfo := es.foldr (fun e r => gap e.1 (e.2 :: r)) (gap last [])
def pool (es : List (Nat × CpInfo)) (last : Nat) : Array CpInfo := ⟨poolList es last⟩
def fileOf (pool : Array CpInfo) (this : Nat) (attrs : Array Attribute := #[]) (ms : Array MethodInfo := #[]) (fl : Nat := 33) (sup : Nat := 0) (ifs : Array Nat := #[]) (fds : Array FieldInfo := #[]) : ClassFile where
  minorVersion := 0
  majorVersion := 65
  constantPool := pool
  accessFlags := fl
  thisClass := this
  superClass := sup
  interfaces := ifs
  fields := fds
  methods := ms
  attributes := attrs
def plain (name : String) (sup : Option ClassId) : Class where
  name := name
  kind := .ordinary
  loader := none
  accessFlags := 33
  super := sup
  interfaces := #[]
  cf := none
  fields := #[]
  methods := #[]
  instanceTypes := #[]
  staticTypes := #[]
  resolved := #[]
  callSites := []
  init := .initialized
  statics := none
  mirror := none

def pool0 : Array CpInfo := pool [(5, u "<init>"), (0, u "()V"), (1, .class_ 10), (1, u "java/lang/Object")] 113

def k0c0 : Code := { maxStack := 0, maxLocals := 1, code := object_method_1_code, exceptionTable := #[], attributes := #[] }
def k0m0 : Method := { name := "<init>", desc := "()V", sig := { parameters := [], returnType := none }, accessFlags := 1, code := some k0c0 }
/-- java/lang/Object -/
def k0 : Class := { plain "java/lang/Object" none with
  accessFlags := 33
  interfaces := #[]
  cf := some (fileOf pool0 8 #[] #[{ accessFlags := 1, nameIndex := 5, descriptorIndex := 6, attributes := #[] }] 33 0 #[] #[])
  fields := #[]
  methods := #[k0m0]
  instanceTypes := #[]
  staticTypes := #[]
  resolved := Array.replicate 124 none
  statics := none }

def pool1 : Array CpInfo := pool [(2, .class_ 4), (0, .nameAndType 5 6), (0, u "java/lang/Object"), (0, u "<init>"), (0, u "()V"), (0, .integer 2097151), (0, .class_ 9), (0, u "com/example/deferline/deferline/books/Ledger"), (0, .class_ 11), (0, u "com/example/deferline/deferline/books/Folding"), (0, .methodref 10 13), (0, .nameAndType 5 14), (0, u "(Ljava/time/LocalDate;Lcom/example/deferline/deferline/market/Funds;Lcom/example/deferline/deferline/market/TradingCalendar;)V"), (0, .methodref 8 16), (0, .nameAndType 5 17), (0, u "(Lcom/example/deferline/deferline/books/Folding;Lcom/example/deferline/deferline/books/Ledger$Posting;Lcom/example/deferline/deferline/books/Participant;Ljava/lang/String;)V"), (0, .methodref 8 3), (0, .class_ 20), (0, u "com/example/deferline/deferline/io/KeptState$Reader"), (0, .methodref 19 22), (0, .nameAndType 5 23), (0, u "([BII)V"), (0, .methodref 8 25), (0, .nameAndType 26 27), (0, u "restore"), (0, u "(Lcom/example/deferline/deferline/io/KeptState$Reader;Lcom/example/deferline/deferline/books/LedgerEntry$Kept;)V"), (0, .methodref 8 29), (0, .nameAndType 30 31), (0, u "carried"), (0, u "()Lcom/example/deferline/deferline/books/AccountBooks;"), (0, .class_ 33), (0, u "com/example/deferline/deferline/books/LedgerCarriedPinLaw"), (2, u "law"), (0, u "(III)Z")] 20

def k1m0 : Method := { name := "<init>", desc := "()V", sig := { parameters := [], returnType := none }, accessFlags := 1, code := none }
def k1c1 : Code := { maxStack := 7, maxLocals := 16, code := code, exceptionTable := #[], attributes := #[] }
def k1m1 : Method := { name := "law", desc := "(III)Z", sig := { parameters := [.int, .int, .int], returnType := some .boolean }, accessFlags := 9, code := some k1c1 }
/-- com/example/deferline/deferline/books/LedgerCarriedPinLaw -/
def k1 : Class := { plain "com/example/deferline/deferline/books/LedgerCarriedPinLaw" (some 0) with
  accessFlags := 49
  interfaces := #[]
  cf := some (fileOf pool1 32 #[] #[{ accessFlags := 1, nameIndex := 5, descriptorIndex := 6, attributes := #[] }, { accessFlags := 9, nameIndex := 36, descriptorIndex := 37, attributes := #[] }] 49 2 #[] #[])
  fields := #[]
  methods := #[k1m0, k1m1]
  instanceTypes := #[]
  staticTypes := #[]
  resolved := Array.replicate 58 none
  statics := none }

def pool2 : Array CpInfo := pool [(3, .methodref 4 5), (0, .class_ 6), (0, .nameAndType 7 8), (0, u "com/example/deferline/deferline/books/Ledger"), (0, u "<init>"), (0, u "(Lcom/example/deferline/deferline/books/Folding;Lcom/example/deferline/deferline/books/Ledger$Posting;Lcom/example/deferline/deferline/books/Participant;Ljava/lang/String;)V"), (0, .methodref 10 11), (0, .class_ 12), (0, .nameAndType 7 13), (0, u "java/lang/Object"), (0, u "()V"), (0, .fieldref 4 15), (0, .nameAndType 16 17), (0, u "NO_ENTRIES"), (0, u "Ljava/util/List;"), (0, .fieldref 4 19), (0, .nameAndType 20 17), (0, u "entries"), (0, .fieldref 4 22), (0, .nameAndType 23 24), (0, u "inOrder"), (0, u "Z"), (0, .long 9223372036854775808), (1, .fieldref 4 28), (0, .nameAndType 29 30), (0, u "lastFoldedDay"), (0, u "J"), (0, .fieldref 4 32), (0, .nameAndType 33 30), (0, u "lastMoveFoldedDay"), (0, .fieldref 4 35), (0, .nameAndType 36 30), (0, u "lastFixedDay"), (0, .fieldref 4 38), (0, .nameAndType 39 30), (0, u "lastFixedCreditDay"), (0, .fieldref 4 41), (0, .nameAndType 42 30), (0, u "lastFixedCompanyContributionDay"), (0, .fieldref 4 44), (0, .nameAndType 45 46), (0, u "folding"), (0, u "Lcom/example/deferline/deferline/books/Folding;"), (0, .fieldref 4 48), (0, .nameAndType 49 50), (0, u "posting"), (0, u "Lcom/example/deferline/deferline/books/Ledger$Posting;"), (0, .fieldref 4 52), (0, .nameAndType 53 54), (0, u "participant"), (0, u "Lcom/example/deferline/deferline/books/Participant;"), (0, .fieldref 4 56), (0, .nameAndType 57 58), (0, u "account"), (0, u "Ljava/lang/String;"), (0, .methodref 60 61), (0, .class_ 62), (0, .nameAndType 63 64), (0, u "com/example/deferline/deferline/io/KeptState$Reader"), (0, u "count"), (0, u "()I"), (10, .interfaceMethodref 76 77), (0, .class_ 78), (0, .nameAndType 79 80), (0, u "java/util/List"), (0, u "add"), (0, u "(Ljava/lang/Object;)Z"), (0, .methodref 60 82), (0, .nameAndType 83 84), (0, u "flag"), (0, u "()Z"), (7, .methodref 93 94), (0, .class_ 95), (0, .nameAndType 96 97), (0, u "com/example/deferline/deferline/books/Folding"), (0, u "newBooks"), (0, u "()Lcom/example/deferline/deferline/books/AccountBooks;"), (0, .fieldref 4 99), (0, .nameAndType 100 101), (0, u "carried"), (0, u "Lcom/example/deferline/deferline/books/AccountBooks;"), (0, .methodref 103 104), (0, .class_ 105), (0, .nameAndType 106 107), (0, u "com/example/deferline/deferline/books/AccountBooks"), (0, u "restore"), (0, u "(Lcom/example/deferline/deferline/io/KeptState$Reader;)V"), (0, .methodref 60 109), (0, .nameAndType 110 111), (0, u "date"), (0, u "()Ljava/time/LocalDate;"), (0, .methodref 4 113), (0, .nameAndType 114 115), (0, u "epochDay"), (0, u "(Ljava/time/LocalDate;)J"), (0, .fieldref 4 117), (0, .nameAndType 118 119), (0, u "lastFoldedLine"), (0, u "I"), (0, .fieldref 4 121), (0, .nameAndType 122 119), (0, u "lastMoveFoldedLine"), (0, .fieldref 4 124), (0, .nameAndType 125 119), (0, u "recentCount"), (0, .methodref 127 128), (0, .class_ 129), (0, .nameAndType 130 131), (0, u "java/lang/Math"), (0, u "max"), (0, u "(II)I"), (0, .fieldref 4 133), (0, .nameAndType 134 135), (0, u "recent"), (0, u "[J"), (6, u "places"), (1, .fieldref 4 145), (0, .nameAndType 142 146), (0, u "Ljava/util/function/IntFunction;"), (0, .fieldref 4 148), (0, .nameAndType 149 119), (0, u "lastFixedLine"), (0, .fieldref 4 151), (0, .nameAndType 152 119), (0, u "lastFixedPlanYear"), (0, .fieldref 4 154), (0, .nameAndType 155 24), (0, u "foldingStopped"), (0, .fieldref 4 157), (0, .nameAndType 158 24), (0, u "historyChanged"), (57, .methodref 217 218), (0, .class_ 219), (0, .nameAndType 220 221), (0, u "java/time/LocalDate"), (0, u "toEpochDay"), (0, u "()J"), (107, u "unapplied"), (8, .class_ 340), (1, u "com/example/deferline/deferline/books/Ledger$Posting"), (72, .class_ 415), (1, u "com/example/deferline/deferline/books/Ledger$Selection"), (35, u "NONE"), (3, u "FIRST_RECENT_CREDITS"), (4, u "(Lcom/example/deferline/deferline/io/KeptState$Reader;Lcom/example/deferline/deferline/books/LedgerEntry$Kept;)V")] 84

def k2c0 : Code := { maxStack := 5, maxLocals := 1, code := prog_11_method_1_code, exceptionTable := #[], attributes := #[] }
def k2m0 : Method := { name := "<init>", desc := "()V", sig := { parameters := [], returnType := none }, accessFlags := 1, code := some k2c0 }
def k2c1 : Code := { maxStack := 3, maxLocals := 5, code := prog_11_method_2_code, exceptionTable := #[], attributes := #[] }
def k2m1 : Method := { name := "<init>", desc := "(Lcom/example/deferline/deferline/books/Folding;Lcom/example/deferline/deferline/books/Ledger$Posting;Lcom/example/deferline/deferline/books/Participant;Ljava/lang/String;)V", sig := { parameters := [(.object "com/example/deferline/deferline/books/Folding"), (.object "com/example/deferline/deferline/books/Ledger$Posting"), (.object "com/example/deferline/deferline/books/Participant"), (.object "java/lang/String")], returnType := none }, accessFlags := 1, code := some k2c1 }
def k2c2 : Code := { maxStack := 4, maxLocals := 4, code := prog_11_method_3_code, exceptionTable := #[], attributes := #[] }
def k2m2 : Method := { name := "restore", desc := "(Lcom/example/deferline/deferline/io/KeptState$Reader;Lcom/example/deferline/deferline/books/LedgerEntry$Kept;)V", sig := { parameters := [(.object "com/example/deferline/deferline/io/KeptState$Reader"), (.object "com/example/deferline/deferline/books/LedgerEntry$Kept")], returnType := none }, accessFlags := 0, code := some k2c2 }
def k2c3 : Code := { maxStack := 4, maxLocals := 1, code := prog_11_method_14_code, exceptionTable := #[], attributes := #[] }
def k2m3 : Method := { name := "carried", desc := "()Lcom/example/deferline/deferline/books/AccountBooks;", sig := { parameters := [], returnType := some (.object "com/example/deferline/deferline/books/AccountBooks") }, accessFlags := 0, code := some k2c3 }
def k2c4 : Code := { maxStack := 2, maxLocals := 1, code := prog_11_method_31_code, exceptionTable := #[], attributes := #[] }
def k2m4 : Method := { name := "epochDay", desc := "(Ljava/time/LocalDate;)J", sig := { parameters := [(.object "java/time/LocalDate")], returnType := some .long }, accessFlags := 10, code := some k2c4 }
/-- com/example/deferline/deferline/books/Ledger -/
def k2 : Class := { plain "com/example/deferline/deferline/books/Ledger" (some 0) with
  accessFlags := 33
  interfaces := #[]
  cf := some (fileOf pool2 4 #[.nestMembers #[413, 338]] #[{ accessFlags := 1, nameIndex := 7, descriptorIndex := 13, attributes := #[] }, { accessFlags := 1, nameIndex := 7, descriptorIndex := 8, attributes := #[] }, { accessFlags := 0, nameIndex := 106, descriptorIndex := 460, attributes := #[] }, { accessFlags := 0, nameIndex := 100, descriptorIndex := 97, attributes := #[] }, { accessFlags := 10, nameIndex := 114, descriptorIndex := 115, attributes := #[] }] 33 10 #[] #[{ accessFlags := 26, nameIndex := 451, descriptorIndex := 30, attributes := #[] }, { accessFlags := 26, nameIndex := 16, descriptorIndex := 17, attributes := #[] }, { accessFlags := 26, nameIndex := 455, descriptorIndex := 119, attributes := #[] }, { accessFlags := 18, nameIndex := 45, descriptorIndex := 46, attributes := #[] }, { accessFlags := 18, nameIndex := 49, descriptorIndex := 50, attributes := #[] }, { accessFlags := 18, nameIndex := 53, descriptorIndex := 54, attributes := #[] }, { accessFlags := 18, nameIndex := 57, descriptorIndex := 58, attributes := #[] }, { accessFlags := 2, nameIndex := 20, descriptorIndex := 17, attributes := #[] }, { accessFlags := 2, nameIndex := 23, descriptorIndex := 24, attributes := #[] }, { accessFlags := 2, nameIndex := 100, descriptorIndex := 101, attributes := #[] }, { accessFlags := 2, nameIndex := 29, descriptorIndex := 30, attributes := #[] }, { accessFlags := 2, nameIndex := 118, descriptorIndex := 119, attributes := #[] }, { accessFlags := 2, nameIndex := 33, descriptorIndex := 30, attributes := #[] }, { accessFlags := 2, nameIndex := 122, descriptorIndex := 119, attributes := #[] }, { accessFlags := 2, nameIndex := 134, descriptorIndex := 135, attributes := #[] }, { accessFlags := 2, nameIndex := 125, descriptorIndex := 119, attributes := #[] }, { accessFlags := 2, nameIndex := 142, descriptorIndex := 146, attributes := #[] }, { accessFlags := 2, nameIndex := 36, descriptorIndex := 30, attributes := #[] }, { accessFlags := 2, nameIndex := 149, descriptorIndex := 119, attributes := #[] }, { accessFlags := 2, nameIndex := 39, descriptorIndex := 30, attributes := #[] }, { accessFlags := 2, nameIndex := 42, descriptorIndex := 30, attributes := #[] }, { accessFlags := 2, nameIndex := 152, descriptorIndex := 119, attributes := #[] }, { accessFlags := 2, nameIndex := 155, descriptorIndex := 24, attributes := #[] }, { accessFlags := 2, nameIndex := 329, descriptorIndex := 24, attributes := #[] }, { accessFlags := 2, nameIndex := 158, descriptorIndex := 24, attributes := #[] }])
  fields := #[{ name := "NONE", type := .long, accessFlags := 26, slot := 0, constantValue := 0 }, { name := "NO_ENTRIES", type := (.object "java/util/List"), accessFlags := 26, slot := 1, constantValue := 0 }, { name := "FIRST_RECENT_CREDITS", type := .int, accessFlags := 26, slot := 2, constantValue := 0 }, { name := "folding", type := (.object "com/example/deferline/deferline/books/Folding"), accessFlags := 18, slot := 0, constantValue := 0 }, { name := "posting", type := (.object "com/example/deferline/deferline/books/Ledger$Posting"), accessFlags := 18, slot := 1, constantValue := 0 }, { name := "participant", type := (.object "com/example/deferline/deferline/books/Participant"), accessFlags := 18, slot := 2, constantValue := 0 }, { name := "account", type := (.object "java/lang/String"), accessFlags := 18, slot := 3, constantValue := 0 }, { name := "entries", type := (.object "java/util/List"), accessFlags := 2, slot := 4, constantValue := 0 }, { name := "inOrder", type := .boolean, accessFlags := 2, slot := 5, constantValue := 0 }, { name := "carried", type := (.object "com/example/deferline/deferline/books/AccountBooks"), accessFlags := 2, slot := 6, constantValue := 0 }, { name := "lastFoldedDay", type := .long, accessFlags := 2, slot := 7, constantValue := 0 }, { name := "lastFoldedLine", type := .int, accessFlags := 2, slot := 8, constantValue := 0 }, { name := "lastMoveFoldedDay", type := .long, accessFlags := 2, slot := 9, constantValue := 0 }, { name := "lastMoveFoldedLine", type := .int, accessFlags := 2, slot := 10, constantValue := 0 }, { name := "recent", type := (.array .long), accessFlags := 2, slot := 11, constantValue := 0 }, { name := "recentCount", type := .int, accessFlags := 2, slot := 12, constantValue := 0 }, { name := "places", type := (.object "java/util/function/IntFunction"), accessFlags := 2, slot := 13, constantValue := 0 }, { name := "lastFixedDay", type := .long, accessFlags := 2, slot := 14, constantValue := 0 }, { name := "lastFixedLine", type := .int, accessFlags := 2, slot := 15, constantValue := 0 }, { name := "lastFixedCreditDay", type := .long, accessFlags := 2, slot := 16, constantValue := 0 }, { name := "lastFixedCompanyContributionDay", type := .long, accessFlags := 2, slot := 17, constantValue := 0 }, { name := "lastFixedPlanYear", type := .int, accessFlags := 2, slot := 18, constantValue := 0 }, { name := "foldingStopped", type := .boolean, accessFlags := 2, slot := 19, constantValue := 0 }, { name := "unapplied", type := .boolean, accessFlags := 2, slot := 20, constantValue := 0 }, { name := "historyChanged", type := .boolean, accessFlags := 2, slot := 21, constantValue := 0 }]
  methods := #[k2m0, k2m1, k2m2, k2m3, k2m4]
  instanceTypes := #[(.object "com/example/deferline/deferline/books/Folding"), (.object "com/example/deferline/deferline/books/Ledger$Posting"), (.object "com/example/deferline/deferline/books/Participant"), (.object "java/lang/String"), (.object "java/util/List"), .boolean, (.object "com/example/deferline/deferline/books/AccountBooks"), .long, .int, .long, .int, (.array .long), .int, (.object "java/util/function/IntFunction"), .long, .int, .long, .long, .int, .boolean, .boolean, .boolean]
  staticTypes := #[.long, (.object "java/util/List"), .int]
  resolved := Array.replicate 545 none
  statics := some 0 }

def pool3 : Array CpInfo := pool [(1, .class_ 2), (0, u "com/example/deferline/deferline/io/KeptState"), (0, .methodref 4 5), (0, .class_ 6), (0, .nameAndType 7 8), (0, u "java/lang/Object"), (0, u "<init>"), (0, u "()V"), (0, .class_ 10), (0, u "java/util/ArrayList"), (0, .methodref 9 5), (0, .fieldref 13 14), (0, .class_ 15), (0, .nameAndType 16 17), (0, u "com/example/deferline/deferline/io/KeptState$Reader"), (0, u "kept"), (0, u "Ljava/util/List;"), (0, .fieldref 13 19), (0, .nameAndType 20 21), (0, u "bytes"), (0, u "[B"), (0, .fieldref 13 23), (0, .nameAndType 24 25), (0, u "position"), (0, u "I"), (0, .fieldref 13 27), (0, .nameAndType 28 25), (0, u "end"), (0, .methodref 13 30), (0, .nameAndType 31 32), (0, u "next"), (0, u "()B"), (7, .methodref 13 41), (0, .nameAndType 42 43), (0, u "number"), (0, u "()J"), (2, .long 2147483647), (41, .nameAndType 89 90), (0, u "read"), (0, u "()Lcom/example/deferline/deferline/io/KeptState$Whole;"), (0, .methodref 13 92), (0, .nameAndType 93 94), (0, u "once"), (0, u "(Ljava/lang/Class;Lcom/example/deferline/deferline/io/KeptState$Whole;)Ljava/lang/Object;"), (0, .class_ 96), (0, u "java/time/LocalDate"), (0, .invokeDynamic 3 88), (0, .methodref 13 99), (0, .nameAndType 100 101), (0, u "count"), (0, u "()I"), (0, .methodref 1 103), (0, .nameAndType 104 105), (0, u "unzigzag"), (0, u "(J)J"), (23, .class_ 131), (1, u "java/util/List"), (9, u "(Ljava/lang/Object;)Z"), (13, .interfaceMethodref 156 157), (0, .class_ 158), (0, .nameAndType 89 159), (0, u "com/example/deferline/deferline/io/KeptState$Whole"), (0, u "(Lcom/example/deferline/deferline/io/KeptState$Reader;)Ljava/lang/Object;"), (0, .interfaceMethodref 129 161), (0, .nameAndType 162 141), (0, u "add"), (0, .fieldref 95 164), (0, .nameAndType 165 166), (0, u "MIN"), (0, u "Ljava/time/LocalDate;"), (0, .methodref 95 168), (0, .nameAndType 169 43), (0, u "toEpochDay"), (0, .fieldref 95 171), (0, .nameAndType 172 166), (0, u "MAX"), (1, .methodref 95 175), (0, .nameAndType 176 177), (0, u "ofEpochDay"), (0, u "(J)Ljava/time/LocalDate;"), (19, u "([BII)V"), (4, u "flag"), (0, u "()Z"), (2, u "date"), (0, u "()Ljava/time/LocalDate;"), (6, u "wholeDate"), (11, .methodType 159), (5, .methodHandle 5 233), (0, .methodref 13 234), (0, .nameAndType 214 207), (0, .methodType 236), (0, u "(Lcom/example/deferline/deferline/io/KeptState$Reader;)Ljava/time/LocalDate;"), (18, .methodHandle 6 256), (0, .methodref 257 258), (0, .class_ 259), (0, .nameAndType 260 261), (0, u "java/lang/invoke/LambdaMetafactory"), (0, u "metafactory"), (0, u "(Ljava/lang/invoke/MethodHandles$Lookup;Ljava/lang/String;Ljava/lang/invoke/MethodType;Ljava/lang/invoke/MethodType;Ljava/lang/invoke/MethodHandle;Ljava/lang/invoke/MethodType;)Ljava/lang/invoke/CallSite;")] 9

def k3c0 : Code := { maxStack := 3, maxLocals := 4, code := prog_38_method_1_code, exceptionTable := #[], attributes := #[] }
def k3m0 : Method := { name := "<init>", desc := "([BII)V", sig := { parameters := [(.array .byte), .int, .int], returnType := none }, accessFlags := 1, code := some k3c0 }
def k3c1 : Code := { maxStack := 5, maxLocals := 5, code := prog_38_method_2_code, exceptionTable := #[], attributes := #[] }
def k3m1 : Method := { name := "number", desc := "()J", sig := { parameters := [], returnType := some .long }, accessFlags := 1, code := some k3c1 }
def k3c2 : Code := { maxStack := 4, maxLocals := 3, code := prog_38_method_3_code, exceptionTable := #[], attributes := #[] }
def k3m2 : Method := { name := "count", desc := "()I", sig := { parameters := [], returnType := some .int }, accessFlags := 1, code := some k3c2 }
def k3c3 : Code := { maxStack := 3, maxLocals := 2, code := prog_38_method_4_code, exceptionTable := #[], attributes := #[] }
def k3m3 : Method := { name := "flag", desc := "()Z", sig := { parameters := [], returnType := some .boolean }, accessFlags := 1, code := some k3c3 }
def k3c4 : Code := { maxStack := 3, maxLocals := 1, code := prog_38_method_7_code, exceptionTable := #[], attributes := #[] }
def k3m4 : Method := { name := "date", desc := "()Ljava/time/LocalDate;", sig := { parameters := [], returnType := some (.object "java/time/LocalDate") }, accessFlags := 1, code := some k3c4 }
def k3c5 : Code := { maxStack := 4, maxLocals := 6, code := prog_38_method_9_code, exceptionTable := #[], attributes := #[] }
def k3m5 : Method := { name := "once", desc := "(Ljava/lang/Class;Lcom/example/deferline/deferline/io/KeptState$Whole;)Ljava/lang/Object;", sig := { parameters := [(.object "java/lang/Class"), (.object "com/example/deferline/deferline/io/KeptState$Whole")], returnType := some (.object "java/lang/Object") }, accessFlags := 1, code := some k3c5 }
def k3c6 : Code := { maxStack := 4, maxLocals := 3, code := prog_38_method_11_code, exceptionTable := #[], attributes := #[] }
def k3m6 : Method := { name := "wholeDate", desc := "()Ljava/time/LocalDate;", sig := { parameters := [], returnType := some (.object "java/time/LocalDate") }, accessFlags := 2, code := some k3c6 }
def k3c7 : Code := { maxStack := 5, maxLocals := 1, code := prog_38_method_13_code, exceptionTable := #[], attributes := #[] }
def k3m7 : Method := { name := "next", desc := "()B", sig := { parameters := [], returnType := some .byte }, accessFlags := 2, code := some k3c7 }
/-- com/example/deferline/deferline/io/KeptState$Reader -/
def k3 : Class := { plain "com/example/deferline/deferline/io/KeptState$Reader" (some 0) with
  accessFlags := 33
  interfaces := #[]
  cf := some (fileOf pool3 13 #[.nestHost 1, .bootstrapMethods #[⟨0, #[]⟩, ⟨0, #[]⟩, ⟨0, #[]⟩, ⟨255, #[226, 232, 235]⟩, ⟨0, #[]⟩, ⟨0, #[]⟩, ⟨0, #[]⟩, ⟨0, #[]⟩, ⟨0, #[]⟩, ⟨0, #[]⟩]] #[{ accessFlags := 1, nameIndex := 7, descriptorIndex := 197, attributes := #[] }, { accessFlags := 1, nameIndex := 42, descriptorIndex := 43, attributes := #[] }, { accessFlags := 1, nameIndex := 100, descriptorIndex := 101, attributes := #[] }, { accessFlags := 1, nameIndex := 202, descriptorIndex := 203, attributes := #[] }, { accessFlags := 1, nameIndex := 206, descriptorIndex := 207, attributes := #[] }, { accessFlags := 1, nameIndex := 93, descriptorIndex := 94, attributes := #[] }, { accessFlags := 2, nameIndex := 214, descriptorIndex := 207, attributes := #[] }, { accessFlags := 2, nameIndex := 31, descriptorIndex := 32, attributes := #[] }] 33 4 #[] #[{ accessFlags := 18, nameIndex := 20, descriptorIndex := 21, attributes := #[] }, { accessFlags := 18, nameIndex := 28, descriptorIndex := 25, attributes := #[] }, { accessFlags := 2, nameIndex := 24, descriptorIndex := 25, attributes := #[] }, { accessFlags := 18, nameIndex := 16, descriptorIndex := 17, attributes := #[] }])
  fields := #[{ name := "bytes", type := (.array .byte), accessFlags := 18, slot := 0, constantValue := 0 }, { name := "end", type := .int, accessFlags := 18, slot := 1, constantValue := 0 }, { name := "position", type := .int, accessFlags := 2, slot := 2, constantValue := 0 }, { name := "kept", type := (.object "java/util/List"), accessFlags := 18, slot := 3, constantValue := 0 }]
  methods := #[k3m0, k3m1, k3m2, k3m3, k3m4, k3m5, k3m6, k3m7]
  instanceTypes := #[(.array .byte), .int, .int, (.object "java/util/List")]
  staticTypes := #[]
  resolved := Array.replicate 271 none
  callSites := [(4, 3, .constant 9)]
  statics := none }

def pool4 : Array CpInfo := pool [(8, .class_ 10), (1, u "java/lang/Iterable"), (24, .class_ 36), (0, u "java/lang/Object")] 25

/-- java/lang/Iterable -/
def k4 : Class := { plain "java/lang/Iterable" (some 0) with
  accessFlags := 1537
  interfaces := #[]
  cf := some (fileOf pool4 8 #[] #[] 1537 35 #[] #[])
  fields := #[]
  methods := #[]
  instanceTypes := #[]
  staticTypes := #[]
  resolved := Array.replicate 62 none
  statics := none }

def pool5 : Array CpInfo := pool [(10, .class_ 12), (1, u "java/util/Collection"), (47, .class_ 61), (0, u "java/lang/Object"), (0, .class_ 63), (0, u "java/lang/Iterable")] 51

/-- java/util/Collection -/
def k5 : Class := { plain "java/util/Collection" (some 0) with
  accessFlags := 1537
  interfaces := #[4]
  cf := some (fileOf pool5 10 #[] #[] 1537 60 #[62] #[])
  fields := #[]
  methods := #[]
  instanceTypes := #[]
  staticTypes := #[]
  resolved := Array.replicate 115 none
  statics := none }

def pool6 : Array CpInfo := pool [(1, .methodref 2 3), (0, .class_ 4), (0, .nameAndType 5 6), (0, u "java/lang/Object"), (0, u "<init>"), (0, u "()V"), (1, .class_ 10), (1, u "java/util/AbstractCollection"), (66, .class_ 78), (0, u "java/util/Collection")] 81

def k6c0 : Code := { maxStack := 1, maxLocals := 1, code := jdk_22_method_1_code, exceptionTable := #[], attributes := #[] }
def k6m0 : Method := { name := "<init>", desc := "()V", sig := { parameters := [], returnType := none }, accessFlags := 4, code := some k6c0 }
/-- java/util/AbstractCollection -/
def k6 : Class := { plain "java/util/AbstractCollection" (some 0) with
  accessFlags := 1057
  interfaces := #[5]
  cf := some (fileOf pool6 8 #[] #[{ accessFlags := 4, nameIndex := 5, descriptorIndex := 6, attributes := #[] }] 1057 2 #[77] #[])
  fields := #[]
  methods := #[k6m0]
  instanceTypes := #[]
  staticTypes := #[]
  resolved := Array.replicate 160 none
  statics := none }

def pool7 : Array CpInfo := pool [(8, .class_ 10), (1, u "java/util/SequencedCollection"), (15, .class_ 27), (0, u "java/lang/Object"), (0, .class_ 29), (0, u "java/util/Collection")] 27

/-- java/util/SequencedCollection -/
def k7 : Class := { plain "java/util/SequencedCollection" (some 0) with
  accessFlags := 1537
  interfaces := #[5]
  cf := some (fileOf pool7 8 #[] #[] 1537 26 #[28] #[])
  fields := #[]
  methods := #[]
  instanceTypes := #[]
  staticTypes := #[]
  resolved := Array.replicate 57 none
  statics := none }

def pool8 : Array CpInfo := pool [(8, .class_ 10), (1, u "java/util/List"), (49, u "add"), (3, u "(Ljava/lang/Object;)Z"), (23, u "of"), (1, .fieldref 91 92), (0, .class_ 93), (0, .nameAndType 94 95), (0, u "java/util/ImmutableCollections"), (0, u "EMPTY_LIST"), (0, u "Ljava/util/ImmutableCollections$ListN;"), (7, .class_ 104), (0, u "java/lang/Object"), (14, u "()Ljava/util/List;"), (0, .class_ 121), (0, u "java/util/SequencedCollection")] 129

def k8m0 : Method := { name := "add", desc := "(Ljava/lang/Object;)Z", sig := { parameters := [(.object "java/lang/Object")], returnType := some .boolean }, accessFlags := 1025, code := none }
def k8c1 : Code := { maxStack := 1, maxLocals := 0, code := jdk_40_method_36_code, exceptionTable := #[], attributes := #[] }
def k8m1 : Method := { name := "of", desc := "()Ljava/util/List;", sig := { parameters := [], returnType := some (.object "java/util/List") }, accessFlags := 9, code := some k8c1 }
/-- java/util/List -/
def k8 : Class := { plain "java/util/List" (some 0) with
  accessFlags := 1537
  interfaces := #[7]
  cf := some (fileOf pool8 8 #[] #[{ accessFlags := 1025, nameIndex := 60, descriptorIndex := 64, attributes := #[] }, { accessFlags := 9, nameIndex := 88, descriptorIndex := 119, attributes := #[] }] 1537 103 #[120] #[])
  fields := #[]
  methods := #[k8m0, k8m1]
  instanceTypes := #[]
  staticTypes := #[]
  resolved := Array.replicate 251 none
  statics := none }

def pool9 : Array CpInfo := pool [(1, .methodref 2 3), (0, .class_ 4), (0, .nameAndType 5 6), (0, u "java/util/AbstractCollection"), (0, u "<init>"), (0, u "()V"), (0, .fieldref 8 9), (0, .class_ 10), (0, .nameAndType 11 12), (0, u "java/util/AbstractList"), (0, u "modCount"), (0, u "I"), (64, .class_ 78), (0, u "java/util/AbstractList$Itr"), (3, .class_ 83), (0, u "java/util/AbstractList$ListItr"), (9, .class_ 94), (0, u "java/util/AbstractList$RandomAccessSubList"), (3, .class_ 99), (0, u "java/util/AbstractList$SubList"), (33, .class_ 134), (0, u "java/util/List"), (73, .class_ 209), (0, u "java/util/AbstractList$SubList$1"), (0, .class_ 211), (0, u "java/util/AbstractList$RandomAccessSpliterator")] 6

def k9c0 : Code := { maxStack := 2, maxLocals := 1, code := jdk_39_method_1_code, exceptionTable := #[], attributes := #[] }
def k9m0 : Method := { name := "<init>", desc := "()V", sig := { parameters := [], returnType := none }, accessFlags := 4, code := some k9c0 }
/-- java/util/AbstractList -/
def k9 : Class := { plain "java/util/AbstractList" (some 6) with
  accessFlags := 1057
  interfaces := #[8]
  cf := some (fileOf pool9 8 #[.nestMembers #[93, 98, 208, 210, 82, 77]] #[{ accessFlags := 4, nameIndex := 5, descriptorIndex := 6, attributes := #[] }] 1057 2 #[133] #[{ accessFlags := 132, nameIndex := 11, descriptorIndex := 12, attributes := #[] }])
  fields := #[{ name := "modCount", type := .int, accessFlags := 132, slot := 0, constantValue := 0 }]
  methods := #[k9m0]
  instanceTypes := #[.int]
  staticTypes := #[]
  resolved := Array.replicate 218 none
  statics := none }

def pool10 : Array CpInfo := pool [(1, .class_ 2), (0, u "java/util/RandomAccess"), (0, .class_ 4), (0, u "java/lang/Object")] 2

/-- java/util/RandomAccess -/
def k10 : Class := { plain "java/util/RandomAccess" (some 0) with
  accessFlags := 1537
  interfaces := #[]
  cf := some (fileOf pool10 1 #[] #[] 1537 3 #[] #[])
  fields := #[]
  methods := #[]
  instanceTypes := #[]
  staticTypes := #[]
  resolved := Array.replicate 7 none
  statics := none }

def pool11 : Array CpInfo := pool [(1, .class_ 2), (0, u "java/lang/Cloneable"), (0, .class_ 4), (0, u "java/lang/Object")] 2

/-- java/lang/Cloneable -/
def k11 : Class := { plain "java/lang/Cloneable" (some 0) with
  accessFlags := 1537
  interfaces := #[]
  cf := some (fileOf pool11 1 #[] #[] 1537 3 #[] #[])
  fields := #[]
  methods := #[]
  instanceTypes := #[]
  staticTypes := #[]
  resolved := Array.replicate 7 none
  statics := none }

def pool12 : Array CpInfo := pool [(1, .class_ 2), (0, u "java/io/Serializable"), (0, .class_ 4), (0, u "java/lang/Object")] 2

/-- java/io/Serializable -/
def k12 : Class := { plain "java/io/Serializable" (some 0) with
  accessFlags := 1537
  interfaces := #[]
  cf := some (fileOf pool12 1 #[] #[] 1537 3 #[] #[])
  fields := #[]
  methods := #[]
  instanceTypes := #[]
  staticTypes := #[]
  resolved := Array.replicate 7 none
  statics := none }

def pool13 : Array CpInfo := pool [(1, .methodref 2 3), (0, .class_ 4), (0, .nameAndType 5 6), (0, u "java/util/AbstractList"), (0, u "<init>"), (0, u "()V"), (0, .class_ 8), (0, u "java/lang/Object"), (0, .fieldref 10 11), (0, .class_ 12), (0, .nameAndType 13 14), (0, u "java/util/ArrayList"), (0, u "elementData"), (0, u "[Ljava/lang/Object;"), (2, u "EMPTY_ELEMENTDATA"), (21, .fieldref 10 40), (0, .nameAndType 41 14), (0, u "DEFAULTCAPACITY_EMPTY_ELEMENTDATA"), (5, u "()[Ljava/lang/Object;"), (0, .fieldref 10 49), (0, .nameAndType 50 51), (0, u "size"), (0, u "I"), (11, .fieldref 10 64), (0, .nameAndType 65 51), (0, u "modCount"), (3, .methodref 10 70), (0, .nameAndType 71 72), (0, u "grow"), (0, u "(I)[Ljava/lang/Object;"), (6, .methodref 80 81), (0, .class_ 82), (0, .nameAndType 83 84), (0, u "java/lang/Math"), (0, u "max"), (0, u "(II)I"), (11, u "(Ljava/lang/Object;)Z"), (32, .methodref 10 130), (0, .nameAndType 71 47), (0, .methodref 10 132), (0, .nameAndType 133 134), (0, u "add"), (0, u "(Ljava/lang/Object;[Ljava/lang/Object;I)V"), (13, .class_ 149), (0, u "java/util/List"), (112, .class_ 263), (0, u "java/util/ArrayList$ListItr"), (3, .class_ 268), (0, u "java/util/ArrayList$Itr"), (7, .class_ 277), (0, u "java/util/ArrayList$SubList"), (12, .class_ 291), (0, u "java/util/ArrayList$ArrayListSpliterator"), (37, .class_ 330), (0, u "java/util/RandomAccess"), (0, .class_ 332), (0, u "java/lang/Cloneable"), (0, .class_ 334), (0, u "java/io/Serializable"), (0, u "serialVersionUID"), (0, u "J"), (3, u "DEFAULT_CAPACITY"), (159, .class_ 501), (0, u "java/util/ArrayList$SubList$2"), (0, .class_ 503), (0, u "java/util/ArrayList$SubList$1")] 5

def k13c0 : Code := { maxStack := 2, maxLocals := 1, code := jdk_38_method_2_code, exceptionTable := #[], attributes := #[] }
def k13m0 : Method := { name := "<init>", desc := "()V", sig := { parameters := [], returnType := none }, accessFlags := 1, code := some k13c0 }
def k13c1 : Code := { maxStack := 4, maxLocals := 4, code := jdk_38_method_6_code, exceptionTable := #[], attributes := #[] }
def k13m1 : Method := { name := "grow", desc := "(I)[Ljava/lang/Object;", sig := { parameters := [.int], returnType := some (.array (.object "java/lang/Object")) }, accessFlags := 2, code := some k13c1 }
def k13c2 : Code := { maxStack := 3, maxLocals := 1, code := jdk_38_method_7_code, exceptionTable := #[], attributes := #[] }
def k13m2 : Method := { name := "grow", desc := "()[Ljava/lang/Object;", sig := { parameters := [], returnType := some (.array (.object "java/lang/Object")) }, accessFlags := 2, code := some k13c2 }
def k13c3 : Code := { maxStack := 3, maxLocals := 4, code := jdk_38_method_24_code, exceptionTable := #[], attributes := #[] }
def k13m3 : Method := { name := "add", desc := "(Ljava/lang/Object;[Ljava/lang/Object;I)V", sig := { parameters := [(.object "java/lang/Object"), (.array (.object "java/lang/Object")), .int], returnType := none }, accessFlags := 2, code := some k13c3 }
def k13c4 : Code := { maxStack := 4, maxLocals := 2, code := jdk_38_method_25_code, exceptionTable := #[], attributes := #[] }
def k13m4 : Method := { name := "add", desc := "(Ljava/lang/Object;)Z", sig := { parameters := [(.object "java/lang/Object")], returnType := some .boolean }, accessFlags := 1, code := some k13c4 }
/-- java/util/ArrayList -/
def k13 : Class := { plain "java/util/ArrayList" (some 9) with
  accessFlags := 33
  interfaces := #[8, 10, 11, 12]
  cf := some (fileOf pool13 10 #[.nestMembers #[290, 276, 500, 502, 262, 267]] #[{ accessFlags := 1, nameIndex := 5, descriptorIndex := 6, attributes := #[] }, { accessFlags := 2, nameIndex := 71, descriptorIndex := 72, attributes := #[] }, { accessFlags := 2, nameIndex := 71, descriptorIndex := 47, attributes := #[] }, { accessFlags := 2, nameIndex := 133, descriptorIndex := 134, attributes := #[] }, { accessFlags := 1, nameIndex := 133, descriptorIndex := 96, attributes := #[] }] 33 2 #[148, 329, 331, 333] #[{ accessFlags := 26, nameIndex := 335, descriptorIndex := 336, attributes := #[] }, { accessFlags := 26, nameIndex := 340, descriptorIndex := 51, attributes := #[] }, { accessFlags := 26, nameIndex := 17, descriptorIndex := 14, attributes := #[] }, { accessFlags := 26, nameIndex := 41, descriptorIndex := 14, attributes := #[] }, { accessFlags := 128, nameIndex := 13, descriptorIndex := 14, attributes := #[] }, { accessFlags := 2, nameIndex := 50, descriptorIndex := 51, attributes := #[] }])
  fields := #[{ name := "serialVersionUID", type := .long, accessFlags := 26, slot := 0, constantValue := 0 }, { name := "DEFAULT_CAPACITY", type := .int, accessFlags := 26, slot := 1, constantValue := 0 }, { name := "EMPTY_ELEMENTDATA", type := (.array (.object "java/lang/Object")), accessFlags := 26, slot := 2, constantValue := 0 }, { name := "DEFAULTCAPACITY_EMPTY_ELEMENTDATA", type := (.array (.object "java/lang/Object")), accessFlags := 26, slot := 3, constantValue := 0 }, { name := "elementData", type := (.array (.object "java/lang/Object")), accessFlags := 128, slot := 1, constantValue := 0 }, { name := "size", type := .int, accessFlags := 2, slot := 2, constantValue := 0 }]
  methods := #[k13m0, k13m1, k13m2, k13m3, k13m4]
  instanceTypes := #[.int, (.array (.object "java/lang/Object")), .int]
  staticTypes := #[.long, .int, (.array (.object "java/lang/Object")), (.array (.object "java/lang/Object"))]
  resolved := Array.replicate 509 none
  statics := some 1 }

def pool14 : Array CpInfo := pool [(4, .class_ 6), (1, u "java/time/temporal/TemporalAccessor"), (95, .class_ 103), (0, u "java/lang/Object")] 21

/-- java/time/temporal/TemporalAccessor -/
def k14 : Class := { plain "java/time/temporal/TemporalAccessor" (some 0) with
  accessFlags := 1537
  interfaces := #[]
  cf := some (fileOf pool14 4 #[] #[] 1537 102 #[] #[])
  fields := #[]
  methods := #[]
  instanceTypes := #[]
  staticTypes := #[]
  resolved := Array.replicate 125 none
  statics := none }

def pool15 : Array CpInfo := pool [(22, .class_ 24), (1, u "java/time/temporal/Temporal"), (2, .class_ 28), (0, u "java/lang/Object"), (0, .class_ 30), (0, u "java/time/temporal/TemporalAccessor")] 25

/-- java/time/temporal/Temporal -/
def k15 : Class := { plain "java/time/temporal/Temporal" (some 0) with
  accessFlags := 1537
  interfaces := #[14]
  cf := some (fileOf pool15 22 #[] #[] 1537 27 #[29] #[])
  fields := #[]
  methods := #[]
  instanceTypes := #[]
  staticTypes := #[]
  resolved := Array.replicate 56 none
  statics := none }

def pool16 : Array CpInfo := pool [(1, .class_ 2), (0, u "java/time/temporal/TemporalAdjuster"), (0, .class_ 4), (0, u "java/lang/Object")] 6

/-- java/time/temporal/TemporalAdjuster -/
def k16 : Class := { plain "java/time/temporal/TemporalAdjuster" (some 0) with
  accessFlags := 1537
  interfaces := #[]
  cf := some (fileOf pool16 1 #[] #[] 1537 3 #[] #[])
  fields := #[]
  methods := #[]
  instanceTypes := #[]
  staticTypes := #[]
  resolved := Array.replicate 11 none
  statics := none }

def pool17 : Array CpInfo := pool [(1, .class_ 2), (0, u "java/lang/Comparable"), (0, .class_ 4), (0, u "java/lang/Object")] 7

/-- java/lang/Comparable -/
def k17 : Class := { plain "java/lang/Comparable" (some 0) with
  accessFlags := 1537
  interfaces := #[]
  cf := some (fileOf pool17 1 #[] #[] 1537 3 #[] #[])
  fields := #[]
  methods := #[]
  instanceTypes := #[]
  staticTypes := #[]
  resolved := Array.replicate 12 none
  statics := none }

def pool18 : Array CpInfo := pool [(9, .class_ 10), (0, u "java/time/chrono/ChronoLocalDate"), (104, .class_ 117), (1, u "java/time/temporal/Temporal"), (134, .class_ 253), (0, u "java/lang/Object"), (23, .class_ 278), (0, u "java/time/temporal/TemporalAdjuster"), (0, .class_ 280), (0, u "java/lang/Comparable")] 86

/-- java/time/chrono/ChronoLocalDate -/
def k18 : Class := { plain "java/time/chrono/ChronoLocalDate" (some 0) with
  accessFlags := 1537
  interfaces := #[15, 16, 17]
  cf := some (fileOf pool18 9 #[] #[] 1537 252 #[115, 277, 279] #[])
  fields := #[]
  methods := #[]
  instanceTypes := #[]
  staticTypes := #[]
  resolved := Array.replicate 367 none
  statics := none }

def pool19 : Array CpInfo := pool [(1, .class_ 2), (0, u "java/time/LocalDate"), (37, .class_ 42), (1, u "java/time/temporal/ChronoField"), (1, u "Ljava/time/temporal/ChronoField;"), (0, .methodref 40 46), (0, .nameAndType 47 48), (0, u "checkValidValue"), (0, u "(J)J"), (1, u "month"), (19, .fieldref 71 72), (0, .class_ 73), (0, .nameAndType 74 75), (0, u "java/time/chrono/IsoChronology"), (0, u "INSTANCE"), (0, u "Ljava/time/chrono/IsoChronology;"), (0, .methodref 71 77), (0, .nameAndType 78 79), (0, u "isLeapYear"), (0, u "(J)Z"), (5, .nameAndType 86 87), (0, u "<init>"), (0, u "()V"), (33, .methodref 1 122), (0, .nameAndType 86 123), (0, u "(III)V"), (20, u "()J"), (14, u "ofEpochDay"), (0, u "(J)Ljava/time/LocalDate;"), (0, .fieldref 40 162), (0, .nameAndType 163 44), (0, u "EPOCH_DAY"), (0, .long 719528), (1, .long 60), (1, .long 146097), (1, .long 400), (1, .long 591), (1, .long 365), (1, .long 4), (1, .long 100), (64, .methodref 244 85), (0, .class_ 245), (0, u "java/lang/Object"), (0, .fieldref 1 247), (0, .nameAndType 248 249), (0, u "year"), (0, u "I"), (0, .fieldref 1 251), (0, .nameAndType 50 252), (0, u "S"), (0, .fieldref 1 254), (0, .nameAndType 255 252), (0, u "day"), (1, .class_ 259), (1, u "java/time/chrono/ChronoLocalDate"), (8, u "()Z"), (1, .class_ 272), (1, u "java/time/LocalDate$1"), (24, .methodref 1 298), (0, .nameAndType 78 268), (35, u "toEpochDay"), (24, .long 12), (10, .long 3), (9, .class_ 382), (1, u "java/time/temporal/TemporalAdjuster"), (205, u "MAX"), (0, u "Ljava/time/LocalDate;"), (2, u "MIN"), (61, .long 99), (1, .long 399), (1, .long 18446744073709551612), (1, .long 18446744073709551516), (1, .long 18446744073709551216), (1, .long 367), (1, .long 362), (1, .long 2), (100, u "EPOCH"), (0, .class_ 771), (0, u "java/time/temporal/Temporal"), (0, .class_ 773), (0, u "java/io/Serializable"), (0, u "serialVersionUID"), (0, u "J"), (3, u "DAYS_PER_CYCLE"), (1, u "DAYS_0000_TO_1970")] 206

def k19c0 : Code := { maxStack := 8, maxLocals := 14, code := jdk_2323_method_8_code, exceptionTable := #[], attributes := #[] }
def k19m0 : Method := { name := "ofEpochDay", desc := "(J)Ljava/time/LocalDate;", sig := { parameters := [.long], returnType := some (.object "java/time/LocalDate") }, accessFlags := 9, code := some k19c0 }
def k19c1 : Code := { maxStack := 2, maxLocals := 4, code := jdk_2323_method_14_code, exceptionTable := #[], attributes := #[] }
def k19m1 : Method := { name := "<init>", desc := "(III)V", sig := { parameters := [.int, .int, .int], returnType := none }, accessFlags := 2, code := some k19c1 }
def k19c2 : Code := { maxStack := 3, maxLocals := 1, code := jdk_2323_method_30_code, exceptionTable := #[], attributes := #[] }
def k19m2 : Method := { name := "isLeapYear", desc := "()Z", sig := { parameters := [], returnType := some .boolean }, accessFlags := 1, code := some k19c2 }
def k19c3 : Code := { maxStack := 8, maxLocals := 7, code := jdk_2323_method_67_code, exceptionTable := #[], attributes := #[] }
def k19m3 : Method := { name := "toEpochDay", desc := "()J", sig := { parameters := [], returnType := some .long }, accessFlags := 1, code := some k19c3 }
/-- java/time/LocalDate -/
def k19 : Class := { plain "java/time/LocalDate" (some 0) with
  accessFlags := 49
  interfaces := #[15, 16, 18, 12]
  cf := some (fileOf pool19 1 #[.nestMembers #[270]] #[{ accessFlags := 9, nameIndex := 159, descriptorIndex := 160, attributes := #[] }, { accessFlags := 2, nameIndex := 86, descriptorIndex := 123, attributes := #[] }, { accessFlags := 1, nameIndex := 78, descriptorIndex := 268, attributes := #[] }, { accessFlags := 1, nameIndex := 334, descriptorIndex := 144, attributes := #[] }] 49 244 #[770, 380, 257, 772] #[{ accessFlags := 25, nameIndex := 592, descriptorIndex := 589, attributes := #[] }, { accessFlags := 25, nameIndex := 588, descriptorIndex := 589, attributes := #[] }, { accessFlags := 25, nameIndex := 769, descriptorIndex := 589, attributes := #[] }, { accessFlags := 26, nameIndex := 774, descriptorIndex := 775, attributes := #[] }, { accessFlags := 26, nameIndex := 779, descriptorIndex := 249, attributes := #[] }, { accessFlags := 24, nameIndex := 781, descriptorIndex := 775, attributes := #[] }, { accessFlags := 18, nameIndex := 248, descriptorIndex := 249, attributes := #[] }, { accessFlags := 18, nameIndex := 50, descriptorIndex := 252, attributes := #[] }, { accessFlags := 18, nameIndex := 255, descriptorIndex := 252, attributes := #[] }])
  fields := #[{ name := "MIN", type := (.object "java/time/LocalDate"), accessFlags := 25, slot := 0, constantValue := 0 }, { name := "MAX", type := (.object "java/time/LocalDate"), accessFlags := 25, slot := 1, constantValue := 0 }, { name := "EPOCH", type := (.object "java/time/LocalDate"), accessFlags := 25, slot := 2, constantValue := 0 }, { name := "serialVersionUID", type := .long, accessFlags := 26, slot := 3, constantValue := 0 }, { name := "DAYS_PER_CYCLE", type := .int, accessFlags := 26, slot := 4, constantValue := 0 }, { name := "DAYS_0000_TO_1970", type := .long, accessFlags := 24, slot := 5, constantValue := 0 }, { name := "year", type := .int, accessFlags := 18, slot := 0, constantValue := 0 }, { name := "month", type := .short, accessFlags := 18, slot := 1, constantValue := 0 }, { name := "day", type := .short, accessFlags := 18, slot := 2, constantValue := 0 }]
  methods := #[k19m0, k19m1, k19m2, k19m3]
  instanceTypes := #[.int, .short, .short]
  staticTypes := #[(.object "java/time/LocalDate"), (.object "java/time/LocalDate"), (.object "java/time/LocalDate"), .long, .int, .long]
  resolved := Array.replicate 988 none
  mirror := some 8
  statics := some 2 }

def pool20 : Array CpInfo := pool [(1, .class_ 2), (0, u "com/example/deferline/deferline/io/KeptState$Whole"), (0, .class_ 4), (0, u "java/lang/Object"), (0, u "read"), (0, u "(Lcom/example/deferline/deferline/io/KeptState$Reader;)Ljava/lang/Object;"), (9, .class_ 17), (0, u "com/example/deferline/deferline/io/KeptState")] 6

def k20m0 : Method := { name := "read", desc := "(Lcom/example/deferline/deferline/io/KeptState$Reader;)Ljava/lang/Object;", sig := { parameters := [(.object "com/example/deferline/deferline/io/KeptState$Reader")], returnType := some (.object "java/lang/Object") }, accessFlags := 1025, code := none }
/-- com/example/deferline/deferline/io/KeptState$Whole -/
def k20 : Class := { plain "com/example/deferline/deferline/io/KeptState$Whole" (some 0) with
  accessFlags := 1537
  interfaces := #[]
  cf := some (fileOf pool20 1 #[.nestHost 16] #[{ accessFlags := 1025, nameIndex := 5, descriptorIndex := 6, attributes := #[] }] 1537 3 #[] #[])
  fields := #[]
  methods := #[k20m0]
  instanceTypes := #[]
  staticTypes := #[]
  resolved := Array.replicate 24 none
  statics := none }

def pool21 : Array CpInfo := pool [(1, .interfaceMethodref 2 3), (0, .class_ 4), (0, .nameAndType 5 6), (0, u "java/util/Set"), (0, u "of"), (0, u "()Ljava/util/Set;"), (0, .methodref 8 9), (0, .class_ 10), (0, .nameAndType 11 12), (0, u "com/example/deferline/deferline/books/Folding"), (0, u "<init>"), (0, u "(Ljava/time/LocalDate;Lcom/example/deferline/deferline/market/Funds;Lcom/example/deferline/deferline/market/TradingCalendar;Ljava/util/Set;)V"), (0, .methodref 14 15), (0, .class_ 16), (0, .nameAndType 11 17), (0, u "java/lang/Object"), (0, u "()V"), (0, .fieldref 8 19), (0, .nameAndType 20 21), (0, u "through"), (0, u "Ljava/time/LocalDate;"), (0, .fieldref 8 23), (0, .nameAndType 24 25), (0, u "funds"), (0, u "Lcom/example/deferline/deferline/market/Funds;"), (0, .fieldref 8 27), (0, .nameAndType 28 29), (0, u "calendar"), (0, u "Lcom/example/deferline/deferline/market/TradingCalendar;"), (0, .fieldref 8 31), (0, .nameAndType 32 33), (0, u "participantsKeptWhole"), (0, u "Ljava/util/Set;"), (84, .class_ 119), (0, u "com/example/deferline/deferline/books/AccountBooks"), (0, .methodref 118 121), (0, .nameAndType 11 122), (0, u "(Lcom/example/deferline/deferline/market/Funds;Lcom/example/deferline/deferline/market/TradingCalendar;)V"), (0, u "RECENT_DAYS"), (0, u "I"), (4, u "(Ljava/time/LocalDate;Lcom/example/deferline/deferline/market/Funds;Lcom/example/deferline/deferline/market/TradingCalendar;)V"), (17, u "newBooks"), (0, u "()Lcom/example/deferline/deferline/books/AccountBooks;")] 8

def k21c0 : Code := { maxStack := 5, maxLocals := 4, code := prog_10_method_1_code, exceptionTable := #[], attributes := #[] }
def k21m0 : Method := { name := "<init>", desc := "(Ljava/time/LocalDate;Lcom/example/deferline/deferline/market/Funds;Lcom/example/deferline/deferline/market/TradingCalendar;)V", sig := { parameters := [(.object "java/time/LocalDate"), (.object "com/example/deferline/deferline/market/Funds"), (.object "com/example/deferline/deferline/market/TradingCalendar")], returnType := none }, accessFlags := 1, code := some k21c0 }
def k21c1 : Code := { maxStack := 2, maxLocals := 5, code := prog_10_method_2_code, exceptionTable := #[], attributes := #[] }
def k21m1 : Method := { name := "<init>", desc := "(Ljava/time/LocalDate;Lcom/example/deferline/deferline/market/Funds;Lcom/example/deferline/deferline/market/TradingCalendar;Ljava/util/Set;)V", sig := { parameters := [(.object "java/time/LocalDate"), (.object "com/example/deferline/deferline/market/Funds"), (.object "com/example/deferline/deferline/market/TradingCalendar"), (.object "java/util/Set")], returnType := none }, accessFlags := 2, code := some k21c1 }
def k21c2 : Code := { maxStack := 4, maxLocals := 1, code := prog_10_method_9_code, exceptionTable := #[], attributes := #[] }
def k21m2 : Method := { name := "newBooks", desc := "()Lcom/example/deferline/deferline/books/AccountBooks;", sig := { parameters := [], returnType := some (.object "com/example/deferline/deferline/books/AccountBooks") }, accessFlags := 0, code := some k21c2 }
/-- com/example/deferline/deferline/books/Folding -/
def k21 : Class := { plain "com/example/deferline/deferline/books/Folding" (some 0) with
  accessFlags := 33
  interfaces := #[]
  cf := some (fileOf pool21 8 #[] #[{ accessFlags := 1, nameIndex := 11, descriptorIndex := 129, attributes := #[] }, { accessFlags := 2, nameIndex := 11, descriptorIndex := 12, attributes := #[] }, { accessFlags := 0, nameIndex := 147, descriptorIndex := 148, attributes := #[] }] 33 14 #[] #[{ accessFlags := 24, nameIndex := 123, descriptorIndex := 124, attributes := #[] }, { accessFlags := 18, nameIndex := 20, descriptorIndex := 21, attributes := #[] }, { accessFlags := 18, nameIndex := 24, descriptorIndex := 25, attributes := #[] }, { accessFlags := 18, nameIndex := 28, descriptorIndex := 29, attributes := #[] }, { accessFlags := 18, nameIndex := 32, descriptorIndex := 33, attributes := #[] }])
  fields := #[{ name := "RECENT_DAYS", type := .int, accessFlags := 24, slot := 0, constantValue := 0 }, { name := "through", type := (.object "java/time/LocalDate"), accessFlags := 18, slot := 0, constantValue := 0 }, { name := "funds", type := (.object "com/example/deferline/deferline/market/Funds"), accessFlags := 18, slot := 1, constantValue := 0 }, { name := "calendar", type := (.object "com/example/deferline/deferline/market/TradingCalendar"), accessFlags := 18, slot := 2, constantValue := 0 }, { name := "participantsKeptWhole", type := (.object "java/util/Set"), accessFlags := 18, slot := 3, constantValue := 0 }]
  methods := #[k21m0, k21m1, k21m2]
  instanceTypes := #[(.object "java/time/LocalDate"), (.object "com/example/deferline/deferline/market/Funds"), (.object "com/example/deferline/deferline/market/TradingCalendar"), (.object "java/util/Set")]
  staticTypes := #[.int]
  resolved := Array.replicate 157 none
  statics := none }

def pool22 : Array CpInfo := pool [(9, .fieldref 10 11), (0, .class_ 12), (0, .nameAndType 13 14), (0, u "java/util/ImmutableCollections"), (0, u "EMPTY_SET"), (0, u "Ljava/util/ImmutableCollections$SetN;"), (11, .class_ 27), (0, u "java/lang/Object"), (5, .class_ 34), (0, u "java/util/Set"), (1, .class_ 38), (1, u "java/util/Collection"), (4, u "of"), (0, u "()Ljava/util/Set;")] 99

def k22c0 : Code := { maxStack := 1, maxLocals := 0, code := jdk_96_method_17_code, exceptionTable := #[], attributes := #[] }
def k22m0 : Method := { name := "of", desc := "()Ljava/util/Set;", sig := { parameters := [], returnType := some (.object "java/util/Set") }, accessFlags := 9, code := some k22c0 }
/-- java/util/Set -/
def k22 : Class := { plain "java/util/Set" (some 0) with
  accessFlags := 1537
  interfaces := #[5]
  cf := some (fileOf pool22 33 #[] #[{ accessFlags := 9, nameIndex := 43, descriptorIndex := 44, attributes := #[] }] 1537 26 #[36] #[])
  fields := #[]
  methods := #[k22m0]
  instanceTypes := #[]
  staticTypes := #[]
  resolved := Array.replicate 144 none
  statics := none }

def pool23 : Array CpInfo := pool [(2, .class_ 4), (1, u "java/lang/Object"), (0, u "<init>"), (0, u "()V"), (3, .class_ 11), (0, u "java/util/ImmutableCollections$List12"), (0, .class_ 13), (0, u "java/util/ImmutableCollections$ListN"), (3, u "Z"), (29, .class_ 49), (1, u "java/util/ImmutableCollections"), (0, u "$assertionsDisabled"), (5, u "[Ljava/lang/Object;"), (5, u "EMPTY_LIST"), (0, u "Ljava/util/ImmutableCollections$ListN;"), (8, u "EMPTY_LIST_NULLS"), (22, u "SALT32L"), (0, u "J"), (2, u "REVERSE"), (6, u "archivedObjects"), (2, u "EMPTY"), (0, u "Ljava/lang/Object;"), (0, .class_ 112), (0, u "java/util/ImmutableCollections$SetN"), (5, u "EMPTY_SET"), (0, u "Ljava/util/ImmutableCollections$SetN;"), (0, .class_ 121), (0, u "java/util/ImmutableCollections$MapN"), (3, u "EMPTY_MAP"), (0, u "Ljava/util/ImmutableCollections$MapN;"), (4, u "EXPAND_FACTOR"), (0, u "I"), (36, .class_ 170), (0, u "java/util/ImmutableCollections$MapN$MapNIterator"), (0, .class_ 172), (0, u "java/util/ImmutableCollections$MapN$1"), (0, .class_ 174), (0, u "java/util/ImmutableCollections$Map1"), (0, .class_ 176), (0, u "java/util/ImmutableCollections$AbstractImmutableMap"), (0, .class_ 178), (0, u "java/util/ImmutableCollections$SetN$SetNIterator"), (0, .class_ 180), (0, u "java/util/ImmutableCollections$Set12"), (0, .class_ 182), (0, u "java/util/ImmutableCollections$Set12$1"), (0, .class_ 184), (0, u "java/util/ImmutableCollections$AbstractImmutableSet"), (0, .class_ 186), (0, u "java/util/ImmutableCollections$SubList"), (0, .class_ 188), (0, u "java/util/ImmutableCollections$ListItr"), (0, .class_ 190), (0, u "java/util/ImmutableCollections$AbstractImmutableList"), (0, .class_ 192), (0, u "java/util/ImmutableCollections$AbstractImmutableCollection"), (0, .class_ 194), (0, u "java/util/ImmutableCollections$Access"), (0, .class_ 196), (0, u "java/util/ImmutableCollections$Access$1")] 16

def k23m0 : Method := { name := "<init>", desc := "()V", sig := { parameters := [], returnType := none }, accessFlags := 2, code := none }
/-- java/util/ImmutableCollections -/
def k23 : Class := { plain "java/util/ImmutableCollections" (some 0) with
  accessFlags := 32
  interfaces := #[]
  cf := some (fileOf pool23 47 #[.nestMembers #[120, 169, 171, 173, 175, 111, 177, 179, 181, 183, 12, 10, 185, 187, 189, 191, 193, 195]] #[{ accessFlags := 2, nameIndex := 5, descriptorIndex := 6, attributes := #[] }] 32 2 #[] #[{ accessFlags := 26, nameIndex := 95, descriptorIndex := 96, attributes := #[] }, { accessFlags := 26, nameIndex := 99, descriptorIndex := 17, attributes := #[] }, { accessFlags := 10, nameIndex := 106, descriptorIndex := 56, attributes := #[] }, { accessFlags := 26, nameIndex := 109, descriptorIndex := 110, attributes := #[] }, { accessFlags := 24, nameIndex := 62, descriptorIndex := 63, attributes := #[] }, { accessFlags := 24, nameIndex := 72, descriptorIndex := 63, attributes := #[] }, { accessFlags := 24, nameIndex := 118, descriptorIndex := 119, attributes := #[] }, { accessFlags := 24, nameIndex := 125, descriptorIndex := 126, attributes := #[] }, { accessFlags := 24, nameIndex := 131, descriptorIndex := 132, attributes := #[] }, { accessFlags := 4120, nameIndex := 50, descriptorIndex := 17, attributes := #[] }])
  fields := #[{ name := "SALT32L", type := .long, accessFlags := 26, slot := 0, constantValue := 0 }, { name := "REVERSE", type := .boolean, accessFlags := 26, slot := 1, constantValue := 0 }, { name := "archivedObjects", type := (.array (.object "java/lang/Object")), accessFlags := 10, slot := 2, constantValue := 0 }, { name := "EMPTY", type := (.object "java/lang/Object"), accessFlags := 26, slot := 3, constantValue := 0 }, { name := "EMPTY_LIST", type := (.object "java/util/ImmutableCollections$ListN"), accessFlags := 24, slot := 4, constantValue := 0 }, { name := "EMPTY_LIST_NULLS", type := (.object "java/util/ImmutableCollections$ListN"), accessFlags := 24, slot := 5, constantValue := 0 }, { name := "EMPTY_SET", type := (.object "java/util/ImmutableCollections$SetN"), accessFlags := 24, slot := 6, constantValue := 0 }, { name := "EMPTY_MAP", type := (.object "java/util/ImmutableCollections$MapN"), accessFlags := 24, slot := 7, constantValue := 0 }, { name := "EXPAND_FACTOR", type := .int, accessFlags := 24, slot := 8, constantValue := 0 }, { name := "$assertionsDisabled", type := .boolean, accessFlags := 4120, slot := 9, constantValue := 0 }]
  methods := #[k23m0]
  instanceTypes := #[]
  staticTypes := #[.long, .boolean, (.array (.object "java/lang/Object")), (.object "java/lang/Object"), (.object "java/util/ImmutableCollections$ListN"), (.object "java/util/ImmutableCollections$ListN"), (.object "java/util/ImmutableCollections$SetN"), (.object "java/util/ImmutableCollections$MapN"), .int, .boolean]
  resolved := Array.replicate 213 none
  statics := some 3 }

def pool24 : Array CpInfo := pool [(2, .class_ 4), (1, u "java/lang/Object"), (0, u "<init>"), (0, u "()V"), (0, .class_ 8), (0, u "com/example/deferline/deferline/io/KeptState"), (0, u "NULL"), (0, u "I"), (2, u "EARLIER"), (1, u "WHOLE"), (1, u "ASCII"), (0, u "UTF_16"), (0, u "SMALL"), (0, u "LARGE"), (3, u "(J)J"), (0, u "unzigzag"), (3, .class_ 30), (0, u "com/example/deferline/deferline/io/KeptState$Reader"), (0, .class_ 32), (0, u "com/example/deferline/deferline/io/KeptState$Writer"), (0, .class_ 34), (0, u "com/example/deferline/deferline/io/KeptState$Whole"), (0, .class_ 36), (0, u "com/example/deferline/deferline/io/KeptState$Unreadable")] 5

def k24m0 : Method := { name := "<init>", desc := "()V", sig := { parameters := [], returnType := none }, accessFlags := 2, code := none }
def k24c1 : Code := { maxStack := 6, maxLocals := 2, code := prog_37_method_3_code, exceptionTable := #[], attributes := #[] }
def k24m1 : Method := { name := "unzigzag", desc := "(J)J", sig := { parameters := [.long], returnType := some .long }, accessFlags := 10, code := some k24c1 }
/-- com/example/deferline/deferline/io/KeptState -/
def k24 : Class := { plain "com/example/deferline/deferline/io/KeptState" (some 0) with
  accessFlags := 33
  interfaces := #[]
  cf := some (fileOf pool24 7 #[.nestMembers #[29, 31, 33, 35]] #[{ accessFlags := 2, nameIndex := 5, descriptorIndex := 6, attributes := #[] }, { accessFlags := 10, nameIndex := 25, descriptorIndex := 24, attributes := #[] }] 33 2 #[] #[{ accessFlags := 26, nameIndex := 9, descriptorIndex := 10, attributes := #[] }, { accessFlags := 26, nameIndex := 13, descriptorIndex := 10, attributes := #[] }, { accessFlags := 26, nameIndex := 15, descriptorIndex := 10, attributes := #[] }, { accessFlags := 26, nameIndex := 17, descriptorIndex := 10, attributes := #[] }, { accessFlags := 26, nameIndex := 18, descriptorIndex := 10, attributes := #[] }, { accessFlags := 26, nameIndex := 19, descriptorIndex := 10, attributes := #[] }, { accessFlags := 26, nameIndex := 20, descriptorIndex := 10, attributes := #[] }])
  fields := #[{ name := "NULL", type := .int, accessFlags := 26, slot := 0, constantValue := 0 }, { name := "EARLIER", type := .int, accessFlags := 26, slot := 1, constantValue := 0 }, { name := "WHOLE", type := .int, accessFlags := 26, slot := 2, constantValue := 0 }, { name := "ASCII", type := .int, accessFlags := 26, slot := 3, constantValue := 0 }, { name := "UTF_16", type := .int, accessFlags := 26, slot := 4, constantValue := 0 }, { name := "SMALL", type := .int, accessFlags := 26, slot := 5, constantValue := 0 }, { name := "LARGE", type := .int, accessFlags := 26, slot := 6, constantValue := 0 }]
  methods := #[k24m0, k24m1]
  instanceTypes := #[]
  staticTypes := #[.int, .int, .int, .int, .int, .int, .int]
  resolved := Array.replicate 42 none
  statics := none }

def pool25 : Array CpInfo := pool [(21, .class_ 22), (0, u "java/time/chrono/Chronology"), (138, .class_ 162), (0, u "java/time/chrono/Chronology$1"), (74, .class_ 238), (0, u "java/lang/Object"), (0, .class_ 240), (0, u "java/lang/Comparable")] 86

/-- java/time/chrono/Chronology -/
def k25 : Class := { plain "java/time/chrono/Chronology" (some 0) with
  accessFlags := 1537
  interfaces := #[17]
  cf := some (fileOf pool25 21 #[.nestMembers #[161]] #[] 1537 237 #[239] #[])
  fields := #[]
  methods := #[]
  instanceTypes := #[]
  staticTypes := #[]
  resolved := Array.replicate 327 none
  statics := none }

def pool26 : Array CpInfo := pool [(2, .class_ 4), (1, u "java/time/chrono/Chronology"), (3, .class_ 10), (1, u "java/time/chrono/AbstractChronology"), (4, u "CHRONOS_BY_ID"), (0, u "Ljava/util/concurrent/ConcurrentHashMap;"), (11, u "CHRONOS_BY_TYPE"), (69, u "<init>"), (0, u "()V"), (71, .class_ 172), (0, u "java/lang/Object")] 383

def k26m0 : Method := { name := "<init>", desc := "()V", sig := { parameters := [], returnType := none }, accessFlags := 4, code := none }
/-- java/time/chrono/AbstractChronology -/
def k26 : Class := { plain "java/time/chrono/AbstractChronology" (some 0) with
  accessFlags := 1057
  interfaces := #[25]
  cf := some (fileOf pool26 8 #[] #[{ accessFlags := 4, nameIndex := 98, descriptorIndex := 99, attributes := #[] }] 1057 171 #[2] #[{ accessFlags := 26, nameIndex := 15, descriptorIndex := 16, attributes := #[] }, { accessFlags := 26, nameIndex := 28, descriptorIndex := 16, attributes := #[] }])
  fields := #[{ name := "CHRONOS_BY_ID", type := (.object "java/util/concurrent/ConcurrentHashMap"), accessFlags := 26, slot := 0, constantValue := 0 }, { name := "CHRONOS_BY_TYPE", type := (.object "java/util/concurrent/ConcurrentHashMap"), accessFlags := 26, slot := 1, constantValue := 0 }]
  methods := #[k26m0]
  instanceTypes := #[]
  staticTypes := #[(.object "java/util/concurrent/ConcurrentHashMap"), (.object "java/util/concurrent/ConcurrentHashMap")]
  resolved := Array.replicate 556 none
  statics := none }

def pool27 : Array CpInfo := pool [(2, .class_ 4), (1, u "java/time/chrono/AbstractChronology"), (0, u "<init>"), (0, u "()V"), (5, .class_ 14), (1, u "java/time/chrono/IsoChronology"), (102, .long 3), (5, .long 100), (3, .long 400), (3, u "INSTANCE"), (0, u "Ljava/time/chrono/IsoChronology;"), (2, u "isLeapYear"), (0, u "(J)Z"), (228, .class_ 366), (0, u "java/io/Serializable"), (0, u "serialVersionUID"), (0, u "J"), (3, u "DAYS_0000_TO_1970")] 81

def k27m0 : Method := { name := "<init>", desc := "()V", sig := { parameters := [], returnType := none }, accessFlags := 2, code := none }
def k27c1 : Code := { maxStack := 4, maxLocals := 3, code := jdk_2369_method_18_code, exceptionTable := #[], attributes := #[] }
def k27m1 : Method := { name := "isLeapYear", desc := "(J)Z", sig := { parameters := [.long], returnType := some .boolean }, accessFlags := 1, code := some k27c1 }
/-- java/time/chrono/IsoChronology -/
def k27 : Class := { plain "java/time/chrono/IsoChronology" (some 26) with
  accessFlags := 49
  interfaces := #[12]
  cf := some (fileOf pool27 12 #[] #[{ accessFlags := 2, nameIndex := 5, descriptorIndex := 6, attributes := #[] }, { accessFlags := 1, nameIndex := 135, descriptorIndex := 136, attributes := #[] }] 49 2 #[365] #[{ accessFlags := 25, nameIndex := 131, descriptorIndex := 132, attributes := #[] }, { accessFlags := 26, nameIndex := 367, descriptorIndex := 368, attributes := #[] }, { accessFlags := 26, nameIndex := 372, descriptorIndex := 368, attributes := #[] }])
  fields := #[{ name := "INSTANCE", type := (.object "java/time/chrono/IsoChronology"), accessFlags := 25, slot := 0, constantValue := 0 }, { name := "serialVersionUID", type := .long, accessFlags := 26, slot := 1, constantValue := 0 }, { name := "DAYS_0000_TO_1970", type := .long, accessFlags := 26, slot := 2, constantValue := 0 }]
  methods := #[k27m0, k27m1]
  instanceTypes := #[]
  staticTypes := #[(.object "java/time/chrono/IsoChronology"), .long, .long]
  resolved := Array.replicate 454 none
  statics := some 4 }

def pool28 : Array CpInfo := pool [(1, .class_ 2), (0, u "java/lang/constant/Constable"), (0, .class_ 4), (0, u "java/lang/Object")] 6

/-- java/lang/constant/Constable -/
def k28 : Class := { plain "java/lang/constant/Constable" (some 0) with
  accessFlags := 1537
  interfaces := #[]
  cf := some (fileOf pool28 1 #[] #[] 1537 3 #[] #[])
  fields := #[]
  methods := #[]
  instanceTypes := #[]
  staticTypes := #[]
  resolved := Array.replicate 11 none
  statics := none }

def pool29 : Array CpInfo := pool [(2, .class_ 4), (1, u "java/lang/Enum"), (0, u "name"), (0, u "Ljava/lang/String;"), (2, u "ordinal"), (0, u "I"), (1, .class_ 14), (1, u "java/lang/Object"), (4, u "hash"), (86, .class_ 108), (1, u "java/lang/Enum$EnumDesc"), (2, .class_ 112), (0, u "java/lang/constant/Constable"), (0, .class_ 114), (0, u "java/lang/Comparable"), (0, .class_ 116), (0, u "java/io/Serializable")] 87

/-- java/lang/Enum -/
def k29 : Class := { plain "java/lang/Enum" (some 0) with
  accessFlags := 1057
  interfaces := #[28, 17, 12]
  cf := some (fileOf pool29 2 #[.nestMembers #[106]] #[] 1057 12 #[111, 113, 115] #[{ accessFlags := 18, nameIndex := 5, descriptorIndex := 6, attributes := #[] }, { accessFlags := 18, nameIndex := 9, descriptorIndex := 10, attributes := #[] }, { accessFlags := 2, nameIndex := 19, descriptorIndex := 10, attributes := #[] }])
  fields := #[{ name := "name", type := (.object "java/lang/String"), accessFlags := 18, slot := 0, constantValue := 0 }, { name := "ordinal", type := .int, accessFlags := 18, slot := 1, constantValue := 0 }, { name := "hash", type := .int, accessFlags := 2, slot := 2, constantValue := 0 }]
  methods := #[]
  instanceTypes := #[(.object "java/lang/String"), .int, .int]
  staticTypes := #[]
  resolved := Array.replicate 204 none
  statics := none }

def pool30 : Array CpInfo := pool [(10, .class_ 12), (1, u "java/time/temporal/TemporalField"), (2, .class_ 16), (0, u "java/lang/Object")] 39

/-- java/time/temporal/TemporalField -/
def k30 : Class := { plain "java/time/temporal/TemporalField" (some 0) with
  accessFlags := 1537
  interfaces := #[]
  cf := some (fileOf pool30 10 #[] #[] 1537 15 #[] #[])
  fields := #[]
  methods := #[]
  instanceTypes := #[]
  staticTypes := #[]
  resolved := Array.replicate 56 none
  statics := none }

def pool31 : Array CpInfo := pool [(1, .class_ 2), (0, u "java/time/temporal/ChronoField"), (2, u "NANO_OF_SECOND"), (0, u "Ljava/time/temporal/ChronoField;"), (2, u "NANO_OF_DAY"), (2, u "MICRO_OF_SECOND"), (2, u "MICRO_OF_DAY"), (2, u "MILLI_OF_SECOND"), (2, u "MILLI_OF_DAY"), (2, u "SECOND_OF_MINUTE"), (2, u "SECOND_OF_DAY"), (2, u "MINUTE_OF_HOUR"), (2, u "MINUTE_OF_DAY"), (2, u "HOUR_OF_AMPM"), (2, u "CLOCK_HOUR_OF_AMPM"), (2, u "HOUR_OF_DAY"), (2, u "CLOCK_HOUR_OF_DAY"), (2, u "AMPM_OF_DAY"), (2, u "DAY_OF_WEEK"), (2, u "ALIGNED_DAY_OF_WEEK_IN_MONTH"), (2, u "ALIGNED_DAY_OF_WEEK_IN_YEAR"), (2, u "DAY_OF_MONTH"), (2, u "DAY_OF_YEAR"), (2, u "EPOCH_DAY"), (2, u "ALIGNED_WEEK_OF_MONTH"), (2, u "ALIGNED_WEEK_OF_YEAR"), (2, u "MONTH_OF_YEAR"), (2, u "PROLEPTIC_MONTH"), (2, u "YEAR_OF_ERA"), (2, u "YEAR"), (2, u "ERA"), (2, u "INSTANT_SECONDS"), (2, u "OFFSET_SECONDS"), (2, u "$VALUES"), (0, u "[Ljava/time/temporal/ChronoField;"), (6, .class_ 106), (1, u "java/lang/Enum"), (8, u "name"), (0, u "Ljava/lang/String;"), (2, u "baseUnit"), (0, u "Ljava/time/temporal/TemporalUnit;"), (2, u "rangeUnit"), (0, .fieldref 1 125), (0, .nameAndType 126 127), (0, u "range"), (0, u "Ljava/time/temporal/ValueRange;"), (2, u "displayNameKey"), (59, .methodref 1 191), (0, .nameAndType 126 192), (0, u "()Ljava/time/temporal/ValueRange;"), (0, .methodref 194 195), (0, .class_ 196), (0, .nameAndType 197 198), (0, u "java/time/temporal/ValueRange"), (0, u "checkValidValue"), (0, u "(JLjava/time/temporal/TemporalField;)J"), (256, .class_ 456), (0, u "java/time/temporal/TemporalField"), (27, u "(J)J")] 22

def k31c0 : Code := { maxStack := 1, maxLocals := 1, code := jdk_2395_method_8_code, exceptionTable := #[], attributes := #[] }
def k31m0 : Method := { name := "range", desc := "()Ljava/time/temporal/ValueRange;", sig := { parameters := [], returnType := some (.object "java/time/temporal/ValueRange") }, accessFlags := 1, code := some k31c0 }
def k31c1 : Code := { maxStack := 4, maxLocals := 3, code := jdk_2395_method_11_code, exceptionTable := #[], attributes := #[] }
def k31m1 : Method := { name := "checkValidValue", desc := "(J)J", sig := { parameters := [.long], returnType := some .long }, accessFlags := 1, code := some k31c1 }
/-- java/time/temporal/ChronoField -/
def k31 : Class := { plain "java/time/temporal/ChronoField" (some 29) with
  accessFlags := 16433
  interfaces := #[30]
  cf := some (fileOf pool31 1 #[] #[{ accessFlags := 1, nameIndex := 126, descriptorIndex := 192, attributes := #[] }, { accessFlags := 1, nameIndex := 197, descriptorIndex := 484, attributes := #[] }] 16433 104 #[455] #[{ accessFlags := 16409, nameIndex := 5, descriptorIndex := 6, attributes := #[] }, { accessFlags := 16409, nameIndex := 9, descriptorIndex := 6, attributes := #[] }, { accessFlags := 16409, nameIndex := 12, descriptorIndex := 6, attributes := #[] }, { accessFlags := 16409, nameIndex := 15, descriptorIndex := 6, attributes := #[] }, { accessFlags := 16409, nameIndex := 18, descriptorIndex := 6, attributes := #[] }, { accessFlags := 16409, nameIndex := 21, descriptorIndex := 6, attributes := #[] }, { accessFlags := 16409, nameIndex := 24, descriptorIndex := 6, attributes := #[] }, { accessFlags := 16409, nameIndex := 27, descriptorIndex := 6, attributes := #[] }, { accessFlags := 16409, nameIndex := 30, descriptorIndex := 6, attributes := #[] }, { accessFlags := 16409, nameIndex := 33, descriptorIndex := 6, attributes := #[] }, { accessFlags := 16409, nameIndex := 36, descriptorIndex := 6, attributes := #[] }, { accessFlags := 16409, nameIndex := 39, descriptorIndex := 6, attributes := #[] }, { accessFlags := 16409, nameIndex := 42, descriptorIndex := 6, attributes := #[] }, { accessFlags := 16409, nameIndex := 45, descriptorIndex := 6, attributes := #[] }, { accessFlags := 16409, nameIndex := 48, descriptorIndex := 6, attributes := #[] }, { accessFlags := 16409, nameIndex := 51, descriptorIndex := 6, attributes := #[] }, { accessFlags := 16409, nameIndex := 54, descriptorIndex := 6, attributes := #[] }, { accessFlags := 16409, nameIndex := 57, descriptorIndex := 6, attributes := #[] }, { accessFlags := 16409, nameIndex := 60, descriptorIndex := 6, attributes := #[] }, { accessFlags := 16409, nameIndex := 63, descriptorIndex := 6, attributes := #[] }, { accessFlags := 16409, nameIndex := 66, descriptorIndex := 6, attributes := #[] }, { accessFlags := 16409, nameIndex := 69, descriptorIndex := 6, attributes := #[] }, { accessFlags := 16409, nameIndex := 72, descriptorIndex := 6, attributes := #[] }, { accessFlags := 16409, nameIndex := 75, descriptorIndex := 6, attributes := #[] }, { accessFlags := 16409, nameIndex := 78, descriptorIndex := 6, attributes := #[] }, { accessFlags := 16409, nameIndex := 81, descriptorIndex := 6, attributes := #[] }, { accessFlags := 16409, nameIndex := 84, descriptorIndex := 6, attributes := #[] }, { accessFlags := 16409, nameIndex := 87, descriptorIndex := 6, attributes := #[] }, { accessFlags := 16409, nameIndex := 90, descriptorIndex := 6, attributes := #[] }, { accessFlags := 16409, nameIndex := 93, descriptorIndex := 6, attributes := #[] }, { accessFlags := 18, nameIndex := 115, descriptorIndex := 116, attributes := #[] }, { accessFlags := 18, nameIndex := 119, descriptorIndex := 120, attributes := #[] }, { accessFlags := 18, nameIndex := 123, descriptorIndex := 120, attributes := #[] }, { accessFlags := 18, nameIndex := 126, descriptorIndex := 127, attributes := #[] }, { accessFlags := 18, nameIndex := 130, descriptorIndex := 116, attributes := #[] }, { accessFlags := 4122, nameIndex := 96, descriptorIndex := 97, attributes := #[] }])
  fields := #[{ name := "NANO_OF_SECOND", type := (.object "java/time/temporal/ChronoField"), accessFlags := 16409, slot := 0, constantValue := 0 }, { name := "NANO_OF_DAY", type := (.object "java/time/temporal/ChronoField"), accessFlags := 16409, slot := 1, constantValue := 0 }, { name := "MICRO_OF_SECOND", type := (.object "java/time/temporal/ChronoField"), accessFlags := 16409, slot := 2, constantValue := 0 }, { name := "MICRO_OF_DAY", type := (.object "java/time/temporal/ChronoField"), accessFlags := 16409, slot := 3, constantValue := 0 }, { name := "MILLI_OF_SECOND", type := (.object "java/time/temporal/ChronoField"), accessFlags := 16409, slot := 4, constantValue := 0 }, { name := "MILLI_OF_DAY", type := (.object "java/time/temporal/ChronoField"), accessFlags := 16409, slot := 5, constantValue := 0 }, { name := "SECOND_OF_MINUTE", type := (.object "java/time/temporal/ChronoField"), accessFlags := 16409, slot := 6, constantValue := 0 }, { name := "SECOND_OF_DAY", type := (.object "java/time/temporal/ChronoField"), accessFlags := 16409, slot := 7, constantValue := 0 }, { name := "MINUTE_OF_HOUR", type := (.object "java/time/temporal/ChronoField"), accessFlags := 16409, slot := 8, constantValue := 0 }, { name := "MINUTE_OF_DAY", type := (.object "java/time/temporal/ChronoField"), accessFlags := 16409, slot := 9, constantValue := 0 }, { name := "HOUR_OF_AMPM", type := (.object "java/time/temporal/ChronoField"), accessFlags := 16409, slot := 10, constantValue := 0 }, { name := "CLOCK_HOUR_OF_AMPM", type := (.object "java/time/temporal/ChronoField"), accessFlags := 16409, slot := 11, constantValue := 0 }, { name := "HOUR_OF_DAY", type := (.object "java/time/temporal/ChronoField"), accessFlags := 16409, slot := 12, constantValue := 0 }, { name := "CLOCK_HOUR_OF_DAY", type := (.object "java/time/temporal/ChronoField"), accessFlags := 16409, slot := 13, constantValue := 0 }, { name := "AMPM_OF_DAY", type := (.object "java/time/temporal/ChronoField"), accessFlags := 16409, slot := 14, constantValue := 0 }, { name := "DAY_OF_WEEK", type := (.object "java/time/temporal/ChronoField"), accessFlags := 16409, slot := 15, constantValue := 0 }, { name := "ALIGNED_DAY_OF_WEEK_IN_MONTH", type := (.object "java/time/temporal/ChronoField"), accessFlags := 16409, slot := 16, constantValue := 0 }, { name := "ALIGNED_DAY_OF_WEEK_IN_YEAR", type := (.object "java/time/temporal/ChronoField"), accessFlags := 16409, slot := 17, constantValue := 0 }, { name := "DAY_OF_MONTH", type := (.object "java/time/temporal/ChronoField"), accessFlags := 16409, slot := 18, constantValue := 0 }, { name := "DAY_OF_YEAR", type := (.object "java/time/temporal/ChronoField"), accessFlags := 16409, slot := 19, constantValue := 0 }, { name := "EPOCH_DAY", type := (.object "java/time/temporal/ChronoField"), accessFlags := 16409, slot := 20, constantValue := 0 }, { name := "ALIGNED_WEEK_OF_MONTH", type := (.object "java/time/temporal/ChronoField"), accessFlags := 16409, slot := 21, constantValue := 0 }, { name := "ALIGNED_WEEK_OF_YEAR", type := (.object "java/time/temporal/ChronoField"), accessFlags := 16409, slot := 22, constantValue := 0 }, { name := "MONTH_OF_YEAR", type := (.object "java/time/temporal/ChronoField"), accessFlags := 16409, slot := 23, constantValue := 0 }, { name := "PROLEPTIC_MONTH", type := (.object "java/time/temporal/ChronoField"), accessFlags := 16409, slot := 24, constantValue := 0 }, { name := "YEAR_OF_ERA", type := (.object "java/time/temporal/ChronoField"), accessFlags := 16409, slot := 25, constantValue := 0 }, { name := "YEAR", type := (.object "java/time/temporal/ChronoField"), accessFlags := 16409, slot := 26, constantValue := 0 }, { name := "ERA", type := (.object "java/time/temporal/ChronoField"), accessFlags := 16409, slot := 27, constantValue := 0 }, { name := "INSTANT_SECONDS", type := (.object "java/time/temporal/ChronoField"), accessFlags := 16409, slot := 28, constantValue := 0 }, { name := "OFFSET_SECONDS", type := (.object "java/time/temporal/ChronoField"), accessFlags := 16409, slot := 29, constantValue := 0 }, { name := "name", type := (.object "java/lang/String"), accessFlags := 18, slot := 3, constantValue := 0 }, { name := "baseUnit", type := (.object "java/time/temporal/TemporalUnit"), accessFlags := 18, slot := 4, constantValue := 0 }, { name := "rangeUnit", type := (.object "java/time/temporal/TemporalUnit"), accessFlags := 18, slot := 5, constantValue := 0 }, { name := "range", type := (.object "java/time/temporal/ValueRange"), accessFlags := 18, slot := 6, constantValue := 0 }, { name := "displayNameKey", type := (.object "java/lang/String"), accessFlags := 18, slot := 7, constantValue := 0 }, { name := "$VALUES", type := (.array (.object "java/time/temporal/ChronoField")), accessFlags := 4122, slot := 30, constantValue := 0 }]
  methods := #[k31m0, k31m1]
  instanceTypes := #[(.object "java/lang/String"), .int, .int, (.object "java/lang/String"), (.object "java/time/temporal/TemporalUnit"), (.object "java/time/temporal/TemporalUnit"), (.object "java/time/temporal/ValueRange"), (.object "java/lang/String")]
  staticTypes := #[(.object "java/time/temporal/ChronoField"), (.object "java/time/temporal/ChronoField"), (.object "java/time/temporal/ChronoField"), (.object "java/time/temporal/ChronoField"), (.object "java/time/temporal/ChronoField"), (.object "java/time/temporal/ChronoField"), (.object "java/time/temporal/ChronoField"), (.object "java/time/temporal/ChronoField"), (.object "java/time/temporal/ChronoField"), (.object "java/time/temporal/ChronoField"), (.object "java/time/temporal/ChronoField"), (.object "java/time/temporal/ChronoField"), (.object "java/time/temporal/ChronoField"), (.object "java/time/temporal/ChronoField"), (.object "java/time/temporal/ChronoField"), (.object "java/time/temporal/ChronoField"), (.object "java/time/temporal/ChronoField"), (.object "java/time/temporal/ChronoField"), (.object "java/time/temporal/ChronoField"), (.object "java/time/temporal/ChronoField"), (.object "java/time/temporal/ChronoField"), (.object "java/time/temporal/ChronoField"), (.object "java/time/temporal/ChronoField"), (.object "java/time/temporal/ChronoField"), (.object "java/time/temporal/ChronoField"), (.object "java/time/temporal/ChronoField"), (.object "java/time/temporal/ChronoField"), (.object "java/time/temporal/ChronoField"), (.object "java/time/temporal/ChronoField"), (.object "java/time/temporal/ChronoField"), (.array (.object "java/time/temporal/ChronoField"))]
  resolved := Array.replicate 507 none
  statics := some 5 }

def pool32 : Array CpInfo := pool [(9, .class_ 10), (0, u "java/time/temporal/ValueRange"), (18, .class_ 31), (1, u "java/lang/Object"), (1, .fieldref 9 34), (0, .nameAndType 35 36), (0, u "minSmallest"), (0, u "J"), (2, u "minLargest"), (2, u "maxSmallest"), (0, .fieldref 9 44), (0, .nameAndType 45 36), (0, u "maxLargest"), (0, .methodref 9 47), (0, .nameAndType 48 49), (0, u "getMinimum"), (0, u "()J"), (4, .methodref 9 55), (0, .nameAndType 56 49), (0, u "getMaximum"), (6, .methodref 9 64), (0, .nameAndType 65 66), (0, u "isValidValue"), (0, u "(J)Z"), (54, .class_ 122), (0, u "java/io/Serializable"), (0, u "serialVersionUID"), (17, u "checkValidValue"), (0, u "(JLjava/time/temporal/TemporalField;)J")] 24

def k32c0 : Code := { maxStack := 2, maxLocals := 1, code := jdk_2423_method_6_code, exceptionTable := #[], attributes := #[] }
def k32m0 : Method := { name := "getMinimum", desc := "()J", sig := { parameters := [], returnType := some .long }, accessFlags := 1, code := some k32c0 }
def k32c1 : Code := { maxStack := 2, maxLocals := 1, code := jdk_2423_method_9_code, exceptionTable := #[], attributes := #[] }
def k32m1 : Method := { name := "getMaximum", desc := "()J", sig := { parameters := [], returnType := some .long }, accessFlags := 1, code := some k32c1 }
def k32c2 : Code := { maxStack := 4, maxLocals := 3, code := jdk_2423_method_11_code, exceptionTable := #[], attributes := #[] }
def k32m2 : Method := { name := "isValidValue", desc := "(J)Z", sig := { parameters := [.long], returnType := some .boolean }, accessFlags := 1, code := some k32c2 }
def k32c3 : Code := { maxStack := 6, maxLocals := 4, code := jdk_2423_method_13_code, exceptionTable := #[], attributes := #[] }
def k32m3 : Method := { name := "checkValidValue", desc := "(JLjava/time/temporal/TemporalField;)J", sig := { parameters := [.long, (.object "java/time/temporal/TemporalField")], returnType := some .long }, accessFlags := 1, code := some k32c3 }
/-- java/time/temporal/ValueRange -/
def k32 : Class := { plain "java/time/temporal/ValueRange" (some 0) with
  accessFlags := 49
  interfaces := #[12]
  cf := some (fileOf pool32 9 #[] #[{ accessFlags := 1, nameIndex := 48, descriptorIndex := 49, attributes := #[] }, { accessFlags := 1, nameIndex := 56, descriptorIndex := 49, attributes := #[] }, { accessFlags := 1, nameIndex := 65, descriptorIndex := 66, attributes := #[] }, { accessFlags := 1, nameIndex := 141, descriptorIndex := 142, attributes := #[] }] 49 29 #[121] #[{ accessFlags := 26, nameIndex := 123, descriptorIndex := 36, attributes := #[] }, { accessFlags := 18, nameIndex := 35, descriptorIndex := 36, attributes := #[] }, { accessFlags := 18, nameIndex := 39, descriptorIndex := 36, attributes := #[] }, { accessFlags := 18, nameIndex := 42, descriptorIndex := 36, attributes := #[] }, { accessFlags := 18, nameIndex := 45, descriptorIndex := 36, attributes := #[] }])
  fields := #[{ name := "serialVersionUID", type := .long, accessFlags := 26, slot := 0, constantValue := 0 }, { name := "minSmallest", type := .long, accessFlags := 18, slot := 0, constantValue := 0 }, { name := "minLargest", type := .long, accessFlags := 18, slot := 1, constantValue := 0 }, { name := "maxSmallest", type := .long, accessFlags := 18, slot := 2, constantValue := 0 }, { name := "maxLargest", type := .long, accessFlags := 18, slot := 3, constantValue := 0 }]
  methods := #[k32m0, k32m1, k32m2, k32m3]
  instanceTypes := #[.long, .long, .long, .long]
  staticTypes := #[.long]
  resolved := Array.replicate 167 none
  statics := none }

def pool33 : Array CpInfo := pool [(1, .class_ 2), (0, u "java/lang/Math"), (1, .class_ 6), (1, u "java/lang/Object"), (0, u "<init>"), (0, u "()V"), (89, .class_ 100), (1, u "java/lang/Math$RandomNumberGeneratorHolder"), (71, u "negativeZeroFloatBits"), (0, u "J"), (2, u "negativeZeroDoubleBits"), (21, u "max"), (46, u "$assertionsDisabled"), (0, u "Z"), (88, u "(II)I"), (2, u "twoToTheDoubleScaleDown"), (0, u "D"), (4, u "twoToTheDoubleScaleUp"), (9, u "E"), (3, u "PI"), (2, u "TAU"), (2, u "DEGREES_TO_RADIANS"), (0, u "RADIANS_TO_DEGREES")] 94

def k33m0 : Method := { name := "<init>", desc := "()V", sig := { parameters := [], returnType := none }, accessFlags := 2, code := none }
def k33c1 : Code := { maxStack := 2, maxLocals := 2, code := jdk_29_method_65_code, exceptionTable := #[], attributes := #[] }
def k33m1 : Method := { name := "max", desc := "(II)I", sig := { parameters := [.int, .int], returnType := some .int }, accessFlags := 9, code := some k33c1 }
/-- java/lang/Math -/
def k33 : Class := { plain "java/lang/Math" (some 0) with
  accessFlags := 49
  interfaces := #[]
  cf := some (fileOf pool33 1 #[.nestMembers #[98]] #[{ accessFlags := 2, nameIndex := 7, descriptorIndex := 8, attributes := #[] }, { accessFlags := 9, nameIndex := 198, descriptorIndex := 335, attributes := #[] }] 49 4 #[] #[{ accessFlags := 25, nameIndex := 354, descriptorIndex := 339, attributes := #[] }, { accessFlags := 25, nameIndex := 358, descriptorIndex := 339, attributes := #[] }, { accessFlags := 25, nameIndex := 361, descriptorIndex := 339, attributes := #[] }, { accessFlags := 26, nameIndex := 364, descriptorIndex := 339, attributes := #[] }, { accessFlags := 26, nameIndex := 365, descriptorIndex := 339, attributes := #[] }, { accessFlags := 26, nameIndex := 172, descriptorIndex := 173, attributes := #[] }, { accessFlags := 26, nameIndex := 176, descriptorIndex := 173, attributes := #[] }, { accessFlags := 8, nameIndex := 344, descriptorIndex := 339, attributes := #[] }, { accessFlags := 8, nameIndex := 338, descriptorIndex := 339, attributes := #[] }, { accessFlags := 4120, nameIndex := 245, descriptorIndex := 246, attributes := #[] }])
  fields := #[{ name := "E", type := .double, accessFlags := 25, slot := 0, constantValue := 0 }, { name := "PI", type := .double, accessFlags := 25, slot := 1, constantValue := 0 }, { name := "TAU", type := .double, accessFlags := 25, slot := 2, constantValue := 0 }, { name := "DEGREES_TO_RADIANS", type := .double, accessFlags := 26, slot := 3, constantValue := 0 }, { name := "RADIANS_TO_DEGREES", type := .double, accessFlags := 26, slot := 4, constantValue := 0 }, { name := "negativeZeroFloatBits", type := .long, accessFlags := 26, slot := 5, constantValue := 0 }, { name := "negativeZeroDoubleBits", type := .long, accessFlags := 26, slot := 6, constantValue := 0 }, { name := "twoToTheDoubleScaleUp", type := .double, accessFlags := 8, slot := 7, constantValue := 0 }, { name := "twoToTheDoubleScaleDown", type := .double, accessFlags := 8, slot := 8, constantValue := 0 }, { name := "$assertionsDisabled", type := .boolean, accessFlags := 4120, slot := 9, constantValue := 0 }]
  methods := #[k33m0, k33m1]
  instanceTypes := #[]
  staticTypes := #[.double, .double, .double, .double, .double, .long, .long, .double, .double, .boolean]
  resolved := Array.replicate 460 none
  statics := none }

def pool34 : Array CpInfo := pool [(1, .methodref 2 3), (0, .class_ 4), (0, .nameAndType 5 6), (0, u "java/lang/Object"), (0, u "<init>"), (0, u "()V"), (0, .fieldref 8 9), (0, .class_ 10), (0, .nameAndType 11 12), (0, u "com/example/deferline/deferline/books/AccountBooks"), (0, u "NONE_HELD"), (0, u "[Lcom/example/deferline/deferline/books/AccountBooks$Units;"), (0, .fieldref 8 14), (0, .nameAndType 15 12), (0, u "held"), (0, .interfaceMethodref 17 18), (0, .class_ 19), (0, .nameAndType 20 21), (0, u "java/util/List"), (0, u "of"), (0, u "()Ljava/util/List;"), (0, .fieldref 8 23), (0, .nameAndType 24 25), (0, u "entries"), (0, u "Ljava/util/List;"), (0, .fieldref 8 27), (0, .nameAndType 28 29), (0, u "foldedThrough"), (0, u "Ljava/time/LocalDate;"), (0, .fieldref 8 31), (0, .nameAndType 32 33), (0, u "funds"), (0, u "Lcom/example/deferline/deferline/market/Funds;"), (0, .fieldref 8 35), (0, .nameAndType 36 37), (0, u "calendar"), (0, u "Lcom/example/deferline/deferline/market/TradingCalendar;"), (23, .class_ 63), (1, u "com/example/deferline/deferline/books/AccountBooks$Units"), (5, u "Ljava/lang/String;"), (26, u "pendingReason"), (2, u "applied"), (0, u "I"), (3, u "()I"), (63, u "count"), (11, .methodref 181 182), (0, .class_ 183), (0, .nameAndType 168 104), (0, u "com/example/deferline/deferline/io/KeptState$Reader"), (2, u "restore"), (142, u "(Lcom/example/deferline/deferline/market/Funds;Lcom/example/deferline/deferline/market/TradingCalendar;)V"), (13, u "(Lcom/example/deferline/deferline/io/KeptState$Reader;)V")] 53

def k34c0 : Code := { maxStack := 2, maxLocals := 3, code := prog_5_method_1_code, exceptionTable := #[], attributes := #[] }
def k34m0 : Method := { name := "<init>", desc := "(Lcom/example/deferline/deferline/market/Funds;Lcom/example/deferline/deferline/market/TradingCalendar;)V", sig := { parameters := [(.object "com/example/deferline/deferline/market/Funds"), (.object "com/example/deferline/deferline/market/TradingCalendar")], returnType := none }, accessFlags := 0, code := some k34c0 }
def k34c1 : Code := { maxStack := 4, maxLocals := 3, code := prog_5_method_9_code, exceptionTable := #[], attributes := #[] }
def k34m1 : Method := { name := "restore", desc := "(Lcom/example/deferline/deferline/io/KeptState$Reader;)V", sig := { parameters := [(.object "com/example/deferline/deferline/io/KeptState$Reader")], returnType := none }, accessFlags := 0, code := some k34c1 }
/-- com/example/deferline/deferline/books/AccountBooks -/
def k34 : Class := { plain "com/example/deferline/deferline/books/AccountBooks" (some 0) with
  accessFlags := 33
  interfaces := #[]
  cf := some (fileOf pool34 8 #[.nestMembers #[61]] #[{ accessFlags := 0, nameIndex := 5, descriptorIndex := 329, attributes := #[] }, { accessFlags := 0, nameIndex := 186, descriptorIndex := 343, attributes := #[] }] 33 2 #[] #[{ accessFlags := 26, nameIndex := 11, descriptorIndex := 12, attributes := #[] }, { accessFlags := 18, nameIndex := 24, descriptorIndex := 25, attributes := #[] }, { accessFlags := 18, nameIndex := 28, descriptorIndex := 29, attributes := #[] }, { accessFlags := 18, nameIndex := 32, descriptorIndex := 33, attributes := #[] }, { accessFlags := 18, nameIndex := 36, descriptorIndex := 37, attributes := #[] }, { accessFlags := 2, nameIndex := 15, descriptorIndex := 12, attributes := #[] }, { accessFlags := 2, nameIndex := 99, descriptorIndex := 100, attributes := #[] }, { accessFlags := 2, nameIndex := 96, descriptorIndex := 69, attributes := #[] }])
  fields := #[{ name := "NONE_HELD", type := (.array (.object "com/example/deferline/deferline/books/AccountBooks$Units")), accessFlags := 26, slot := 0, constantValue := 0 }, { name := "entries", type := (.object "java/util/List"), accessFlags := 18, slot := 0, constantValue := 0 }, { name := "foldedThrough", type := (.object "java/time/LocalDate"), accessFlags := 18, slot := 1, constantValue := 0 }, { name := "funds", type := (.object "com/example/deferline/deferline/market/Funds"), accessFlags := 18, slot := 2, constantValue := 0 }, { name := "calendar", type := (.object "com/example/deferline/deferline/market/TradingCalendar"), accessFlags := 18, slot := 3, constantValue := 0 }, { name := "held", type := (.array (.object "com/example/deferline/deferline/books/AccountBooks$Units")), accessFlags := 2, slot := 4, constantValue := 0 }, { name := "applied", type := .int, accessFlags := 2, slot := 5, constantValue := 0 }, { name := "pendingReason", type := (.object "java/lang/String"), accessFlags := 2, slot := 6, constantValue := 0 }]
  methods := #[k34m0, k34m1]
  instanceTypes := #[(.object "java/util/List"), (.object "java/time/LocalDate"), (.object "com/example/deferline/deferline/market/Funds"), (.object "com/example/deferline/deferline/market/TradingCalendar"), (.array (.object "com/example/deferline/deferline/books/AccountBooks$Units")), .int, (.object "java/lang/String")]
  staticTypes := #[(.array (.object "com/example/deferline/deferline/books/AccountBooks$Units"))]
  resolved := Array.replicate 397 none
  statics := some 6 }

def pool35 : Array CpInfo := pool [(4, .class_ 6), (1, u "java/time/temporal/TemporalUnit"), (23, .class_ 31), (0, u "java/lang/Object")] 27

/-- java/time/temporal/TemporalUnit -/
def k35 : Class := { plain "java/time/temporal/TemporalUnit" (some 0) with
  accessFlags := 1537
  interfaces := #[]
  cf := some (fileOf pool35 4 #[] #[] 1537 30 #[] #[])
  fields := #[]
  methods := #[]
  instanceTypes := #[]
  staticTypes := #[]
  resolved := Array.replicate 59 none
  statics := none }

def pool36 : Array CpInfo := pool [(1, .class_ 2), (0, u "java/time/temporal/ChronoUnit"), (2, u "NANOS"), (0, u "Ljava/time/temporal/ChronoUnit;"), (2, u "MICROS"), (2, u "MILLIS"), (2, u "SECONDS"), (2, u "MINUTES"), (2, u "HOURS"), (2, u "HALF_DAYS"), (2, u "DAYS"), (2, u "WEEKS"), (2, u "MONTHS"), (2, u "YEARS"), (2, u "DECADES"), (2, u "CENTURIES"), (2, u "MILLENNIA"), (2, u "ERAS"), (2, u "FOREVER"), (2, u "$VALUES"), (0, u "[Ljava/time/temporal/ChronoUnit;"), (6, .class_ 64), (1, u "java/lang/Enum"), (8, u "name"), (0, u "Ljava/lang/String;"), (2, u "duration"), (0, u "Ljava/time/Duration;"), (117, .class_ 197), (0, u "java/time/temporal/TemporalUnit")] 39

/-- java/time/temporal/ChronoUnit -/
def k36 : Class := { plain "java/time/temporal/ChronoUnit" (some 29) with
  accessFlags := 16433
  interfaces := #[35]
  cf := some (fileOf pool36 1 #[] #[] 16433 62 #[196] #[{ accessFlags := 16409, nameIndex := 5, descriptorIndex := 6, attributes := #[] }, { accessFlags := 16409, nameIndex := 9, descriptorIndex := 6, attributes := #[] }, { accessFlags := 16409, nameIndex := 12, descriptorIndex := 6, attributes := #[] }, { accessFlags := 16409, nameIndex := 15, descriptorIndex := 6, attributes := #[] }, { accessFlags := 16409, nameIndex := 18, descriptorIndex := 6, attributes := #[] }, { accessFlags := 16409, nameIndex := 21, descriptorIndex := 6, attributes := #[] }, { accessFlags := 16409, nameIndex := 24, descriptorIndex := 6, attributes := #[] }, { accessFlags := 16409, nameIndex := 27, descriptorIndex := 6, attributes := #[] }, { accessFlags := 16409, nameIndex := 30, descriptorIndex := 6, attributes := #[] }, { accessFlags := 16409, nameIndex := 33, descriptorIndex := 6, attributes := #[] }, { accessFlags := 16409, nameIndex := 36, descriptorIndex := 6, attributes := #[] }, { accessFlags := 16409, nameIndex := 39, descriptorIndex := 6, attributes := #[] }, { accessFlags := 16409, nameIndex := 42, descriptorIndex := 6, attributes := #[] }, { accessFlags := 16409, nameIndex := 45, descriptorIndex := 6, attributes := #[] }, { accessFlags := 16409, nameIndex := 48, descriptorIndex := 6, attributes := #[] }, { accessFlags := 16409, nameIndex := 51, descriptorIndex := 6, attributes := #[] }, { accessFlags := 18, nameIndex := 73, descriptorIndex := 74, attributes := #[] }, { accessFlags := 18, nameIndex := 77, descriptorIndex := 78, attributes := #[] }, { accessFlags := 4122, nameIndex := 54, descriptorIndex := 55, attributes := #[] }])
  fields := #[{ name := "NANOS", type := (.object "java/time/temporal/ChronoUnit"), accessFlags := 16409, slot := 0, constantValue := 0 }, { name := "MICROS", type := (.object "java/time/temporal/ChronoUnit"), accessFlags := 16409, slot := 1, constantValue := 0 }, { name := "MILLIS", type := (.object "java/time/temporal/ChronoUnit"), accessFlags := 16409, slot := 2, constantValue := 0 }, { name := "SECONDS", type := (.object "java/time/temporal/ChronoUnit"), accessFlags := 16409, slot := 3, constantValue := 0 }, { name := "MINUTES", type := (.object "java/time/temporal/ChronoUnit"), accessFlags := 16409, slot := 4, constantValue := 0 }, { name := "HOURS", type := (.object "java/time/temporal/ChronoUnit"), accessFlags := 16409, slot := 5, constantValue := 0 }, { name := "HALF_DAYS", type := (.object "java/time/temporal/ChronoUnit"), accessFlags := 16409, slot := 6, constantValue := 0 }, { name := "DAYS", type := (.object "java/time/temporal/ChronoUnit"), accessFlags := 16409, slot := 7, constantValue := 0 }, { name := "WEEKS", type := (.object "java/time/temporal/ChronoUnit"), accessFlags := 16409, slot := 8, constantValue := 0 }, { name := "MONTHS", type := (.object "java/time/temporal/ChronoUnit"), accessFlags := 16409, slot := 9, constantValue := 0 }, { name := "YEARS", type := (.object "java/time/temporal/ChronoUnit"), accessFlags := 16409, slot := 10, constantValue := 0 }, { name := "DECADES", type := (.object "java/time/temporal/ChronoUnit"), accessFlags := 16409, slot := 11, constantValue := 0 }, { name := "CENTURIES", type := (.object "java/time/temporal/ChronoUnit"), accessFlags := 16409, slot := 12, constantValue := 0 }, { name := "MILLENNIA", type := (.object "java/time/temporal/ChronoUnit"), accessFlags := 16409, slot := 13, constantValue := 0 }, { name := "ERAS", type := (.object "java/time/temporal/ChronoUnit"), accessFlags := 16409, slot := 14, constantValue := 0 }, { name := "FOREVER", type := (.object "java/time/temporal/ChronoUnit"), accessFlags := 16409, slot := 15, constantValue := 0 }, { name := "name", type := (.object "java/lang/String"), accessFlags := 18, slot := 3, constantValue := 0 }, { name := "duration", type := (.object "java/time/Duration"), accessFlags := 18, slot := 4, constantValue := 0 }, { name := "$VALUES", type := (.array (.object "java/time/temporal/ChronoUnit")), accessFlags := 4122, slot := 16, constantValue := 0 }]
  methods := #[]
  instanceTypes := #[(.object "java/lang/String"), .int, .int, (.object "java/lang/String"), (.object "java/time/Duration")]
  staticTypes := #[(.object "java/time/temporal/ChronoUnit"), (.object "java/time/temporal/ChronoUnit"), (.object "java/time/temporal/ChronoUnit"), (.object "java/time/temporal/ChronoUnit"), (.object "java/time/temporal/ChronoUnit"), (.object "java/time/temporal/ChronoUnit"), (.object "java/time/temporal/ChronoUnit"), (.object "java/time/temporal/ChronoUnit"), (.object "java/time/temporal/ChronoUnit"), (.object "java/time/temporal/ChronoUnit"), (.object "java/time/temporal/ChronoUnit"), (.object "java/time/temporal/ChronoUnit"), (.object "java/time/temporal/ChronoUnit"), (.object "java/time/temporal/ChronoUnit"), (.object "java/time/temporal/ChronoUnit"), (.object "java/time/temporal/ChronoUnit"), (.array (.object "java/time/temporal/ChronoUnit"))]
  resolved := Array.replicate 237 none
  statics := some 7 }

def pool37 : Array CpInfo := pool [(2, .class_ 4), (1, u "java/util/AbstractCollection"), (0, u "<init>"), (0, u "()V"), (1, .class_ 10), (1, u "java/util/ImmutableCollections"), (2, .class_ 14), (0, u "java/util/ImmutableCollections$AbstractImmutableCollection")] 41

def k37m0 : Method := { name := "<init>", desc := "()V", sig := { parameters := [], returnType := none }, accessFlags := 0, code := none }
/-- java/util/ImmutableCollections$AbstractImmutableCollection -/
def k37 : Class := { plain "java/util/ImmutableCollections$AbstractImmutableCollection" (some 6) with
  accessFlags := 1056
  interfaces := #[]
  cf := some (fileOf pool37 13 #[.nestHost 8] #[{ accessFlags := 0, nameIndex := 5, descriptorIndex := 6, attributes := #[] }] 1056 2 #[] #[])
  fields := #[]
  methods := #[k37m0]
  instanceTypes := #[]
  staticTypes := #[]
  resolved := Array.replicate 56 none
  statics := none }

def pool38 : Array CpInfo := pool [(2, .class_ 4), (1, u "java/util/ImmutableCollections$AbstractImmutableCollection"), (0, u "<init>"), (0, u "()V"), (1, .class_ 10), (1, u "java/util/ImmutableCollections"), (3, .class_ 16), (1, u "java/util/ImmutableCollections$AbstractImmutableList"), (60, .class_ 78), (0, u "java/util/List"), (45, .class_ 125), (0, u "java/util/RandomAccess")] 70

def k38m0 : Method := { name := "<init>", desc := "()V", sig := { parameters := [], returnType := none }, accessFlags := 0, code := none }
/-- java/util/ImmutableCollections$AbstractImmutableList -/
def k38 : Class := { plain "java/util/ImmutableCollections$AbstractImmutableList" (some 37) with
  accessFlags := 1056
  interfaces := #[8, 10]
  cf := some (fileOf pool38 14 #[.nestHost 8] #[{ accessFlags := 0, nameIndex := 5, descriptorIndex := 6, attributes := #[] }] 1056 2 #[77, 124] #[])
  fields := #[]
  methods := #[k38m0]
  instanceTypes := #[]
  staticTypes := #[]
  resolved := Array.replicate 196 none
  statics := none }

def pool39 : Array CpInfo := pool [(2, .class_ 4), (1, u "java/util/ImmutableCollections$AbstractImmutableList"), (3, .class_ 10), (1, u "java/util/ImmutableCollections$ListN"), (0, u "elements"), (0, u "[Ljava/lang/Object;"), (2, u "allowNulls"), (0, u "Z"), (42, .class_ 60), (0, u "java/io/Serializable"), (53, .class_ 115), (0, u "java/util/ImmutableCollections")] 3

/-- java/util/ImmutableCollections$ListN -/
def k39 : Class := { plain "java/util/ImmutableCollections$ListN" (some 38) with
  accessFlags := 48
  interfaces := #[12]
  cf := some (fileOf pool39 8 #[.nestHost 114] #[] 48 2 #[59] #[{ accessFlags := 18, nameIndex := 11, descriptorIndex := 12, attributes := #[] }, { accessFlags := 18, nameIndex := 15, descriptorIndex := 16, attributes := #[] }])
  fields := #[{ name := "elements", type := (.array (.object "java/lang/Object")), accessFlags := 18, slot := 0, constantValue := 0 }, { name := "allowNulls", type := .boolean, accessFlags := 18, slot := 1, constantValue := 0 }]
  methods := #[]
  instanceTypes := #[(.array (.object "java/lang/Object")), .boolean]
  staticTypes := #[]
  resolved := Array.replicate 119 none
  statics := none }

def pool40 : Array CpInfo := pool [(2, .class_ 4), (1, u "java/util/ImmutableCollections$AbstractImmutableCollection"), (0, u "<init>"), (0, u "()V"), (0, .class_ 8), (0, u "java/util/Set"), (7, .class_ 17), (0, u "java/util/ImmutableCollections$AbstractImmutableSet"), (43, .class_ 62), (0, u "java/util/ImmutableCollections")] 3

def k40m0 : Method := { name := "<init>", desc := "()V", sig := { parameters := [], returnType := none }, accessFlags := 0, code := none }
/-- java/util/ImmutableCollections$AbstractImmutableSet -/
def k40 : Class := { plain "java/util/ImmutableCollections$AbstractImmutableSet" (some 37) with
  accessFlags := 1056
  interfaces := #[22]
  cf := some (fileOf pool40 16 #[.nestHost 61] #[{ accessFlags := 0, nameIndex := 5, descriptorIndex := 6, attributes := #[] }] 1056 2 #[7] #[])
  fields := #[]
  methods := #[k40m0]
  instanceTypes := #[]
  staticTypes := #[]
  resolved := Array.replicate 66 none
  statics := none }

def pool41 : Array CpInfo := pool [(1, .class_ 2), (0, u "java/util/ImmutableCollections"), (1, .class_ 6), (1, u "java/util/ImmutableCollections$AbstractImmutableSet"), (3, .class_ 12), (1, u "java/util/ImmutableCollections$SetN"), (0, u "size"), (0, u "I"), (4, u "elements"), (0, u "[Ljava/lang/Object;"), (86, .class_ 108), (0, u "java/io/Serializable")] 59

/-- java/util/ImmutableCollections$SetN -/
def k41 : Class := { plain "java/util/ImmutableCollections$SetN" (some 40) with
  accessFlags := 48
  interfaces := #[12]
  cf := some (fileOf pool41 10 #[.nestHost 1] #[] 48 4 #[107] #[{ accessFlags := 16, nameIndex := 19, descriptorIndex := 20, attributes := #[] }, { accessFlags := 16, nameIndex := 13, descriptorIndex := 14, attributes := #[] }])
  fields := #[{ name := "elements", type := (.array (.object "java/lang/Object")), accessFlags := 16, slot := 0, constantValue := 0 }, { name := "size", type := .int, accessFlags := 16, slot := 1, constantValue := 0 }]
  methods := #[]
  instanceTypes := #[(.array (.object "java/lang/Object")), .int]
  staticTypes := #[]
  resolved := Array.replicate 168 none
  statics := none }

def pool42 : Array CpInfo := pool [(2, .class_ 4), (1, u "java/lang/CharSequence"), (42, .class_ 48), (0, u "java/lang/CharSequence$1CodePointIterator"), (10, .class_ 60), (0, u "java/lang/CharSequence$1CharIterator"), (5, .class_ 67), (0, u "java/lang/Object")] 63

/-- java/lang/CharSequence -/
def k42 : Class := { plain "java/lang/CharSequence" (some 0) with
  accessFlags := 1537
  interfaces := #[]
  cf := some (fileOf pool42 2 #[.nestMembers #[47, 59]] #[] 1537 66 #[] #[])
  fields := #[]
  methods := #[]
  instanceTypes := #[]
  staticTypes := #[]
  resolved := Array.replicate 131 none
  statics := none }

def pool43 : Array CpInfo := pool [(1, .class_ 2), (0, u "java/lang/constant/ConstantDesc"), (0, .class_ 4), (0, u "java/lang/Object")] 32

/-- java/lang/constant/ConstantDesc -/
def k43 : Class := { plain "java/lang/constant/ConstantDesc" (some 0) with
  accessFlags := 1537
  interfaces := #[]
  cf := some (fileOf pool43 1 #[] #[] 1537 3 #[] #[])
  fields := #[]
  methods := #[]
  instanceTypes := #[]
  staticTypes := #[]
  resolved := Array.replicate 37 none
  statics := none }

def pool44 : Array CpInfo := pool [(2, .class_ 4), (1, u "java/lang/Object"), (0, u "<init>"), (0, u "()V"), (3, .class_ 12), (1, u "java/lang/String"), (0, u "value"), (0, u "[B"), (2, u "coder"), (0, u "B"), (2, u "hash"), (0, u "I"), (2, u "hashIsZero"), (0, u "Z"), (13, u "COMPACT_STRINGS"), (534, .class_ 576), (0, u "java/lang/CharSequence"), (22, u "CASE_INSENSITIVE_ORDER"), (0, u "Ljava/util/Comparator;"), (500, u "serialPersistentFields"), (0, u "[Ljava/io/ObjectStreamField;"), (0, .class_ 1104), (0, u "java/lang/String$CaseInsensitiveComparator"), (1, .class_ 1107), (0, u "java/io/Serializable"), (0, .class_ 1109), (0, u "java/lang/Comparable"), (0, .class_ 1111), (0, u "java/lang/constant/Constable"), (0, .class_ 1113), (0, u "java/lang/constant/ConstantDesc"), (2, u "serialVersionUID"), (0, u "J"), (3, u "REPL"), (0, u "C"), (2, u "LATIN1"), (1, u "UTF16")] 323

def k44m0 : Method := { name := "<init>", desc := "()V", sig := { parameters := [], returnType := none }, accessFlags := 1, code := none }
/-- java/lang/String -/
def k44 : Class := { plain "java/lang/String" (some 0) with
  accessFlags := 49
  interfaces := #[12, 17, 42, 28, 43]
  cf := some (fileOf pool44 10 #[.nestMembers #[1103]] #[{ accessFlags := 1, nameIndex := 5, descriptorIndex := 6, attributes := #[] }] 49 2 #[1106, 1108, 575, 1110, 1112] #[{ accessFlags := 18, nameIndex := 13, descriptorIndex := 14, attributes := #[] }, { accessFlags := 18, nameIndex := 17, descriptorIndex := 18, attributes := #[] }, { accessFlags := 2, nameIndex := 21, descriptorIndex := 22, attributes := #[] }, { accessFlags := 2, nameIndex := 25, descriptorIndex := 26, attributes := #[] }, { accessFlags := 26, nameIndex := 1116, descriptorIndex := 1117, attributes := #[] }, { accessFlags := 24, nameIndex := 40, descriptorIndex := 26, attributes := #[] }, { accessFlags := 26, nameIndex := 1101, descriptorIndex := 1102, attributes := #[] }, { accessFlags := 26, nameIndex := 1121, descriptorIndex := 1122, attributes := #[] }, { accessFlags := 25, nameIndex := 599, descriptorIndex := 600, attributes := #[] }, { accessFlags := 24, nameIndex := 1125, descriptorIndex := 18, attributes := #[] }, { accessFlags := 24, nameIndex := 1127, descriptorIndex := 18, attributes := #[] }])
  fields := #[{ name := "value", type := (.array .byte), accessFlags := 18, slot := 0, constantValue := 0 }, { name := "coder", type := .byte, accessFlags := 18, slot := 1, constantValue := 0 }, { name := "hash", type := .int, accessFlags := 2, slot := 2, constantValue := 0 }, { name := "hashIsZero", type := .boolean, accessFlags := 2, slot := 3, constantValue := 0 }, { name := "serialVersionUID", type := .long, accessFlags := 26, slot := 0, constantValue := 0 }, { name := "COMPACT_STRINGS", type := .boolean, accessFlags := 24, slot := 1, constantValue := 0 }, { name := "serialPersistentFields", type := (.array (.object "java/io/ObjectStreamField")), accessFlags := 26, slot := 2, constantValue := 0 }, { name := "REPL", type := .char, accessFlags := 26, slot := 3, constantValue := 0 }, { name := "CASE_INSENSITIVE_ORDER", type := (.object "java/util/Comparator"), accessFlags := 25, slot := 4, constantValue := 0 }, { name := "LATIN1", type := .byte, accessFlags := 24, slot := 5, constantValue := 0 }, { name := "UTF16", type := .byte, accessFlags := 24, slot := 6, constantValue := 0 }]
  methods := #[k44m0]
  instanceTypes := #[(.array .byte), .byte, .int, .boolean]
  staticTypes := #[.long, .boolean, (.array (.object "java/io/ObjectStreamField")), .char, (.object "java/util/Comparator"), .byte, .byte]
  resolved := Array.replicate 1451 none
  statics := none }

def pool45 : Array CpInfo := pool [(1, .class_ 2), (0, u "java/time/temporal/TemporalAmount"), (0, .class_ 4), (0, u "java/lang/Object")] 11

/-- java/time/temporal/TemporalAmount -/
def k45 : Class := { plain "java/time/temporal/TemporalAmount" (some 0) with
  accessFlags := 1537
  interfaces := #[]
  cf := some (fileOf pool45 1 #[] #[] 1537 3 #[] #[])
  fields := #[]
  methods := #[]
  instanceTypes := #[]
  staticTypes := #[]
  resolved := Array.replicate 16 none
  statics := none }

def pool46 : Array CpInfo := pool [(11, .class_ 13), (1, u "java/time/Duration"), (20, u "ZERO"), (0, u "Ljava/time/Duration;"), (13, .class_ 51), (1, u "java/time/temporal/TemporalAmount"), (27, .class_ 81), (1, u "java/time/Duration$Lazy"), (35, u "seconds"), (101, .class_ 220), (0, u "java/lang/Object"), (2, u "J"), (2, u "nanos"), (0, u "I"), (11, .class_ 241), (1, u "java/time/Duration$DurationUnits"), (27, .class_ 271), (1, u "java/time/Duration$1"), (91, u "BI_NANOS_PER_SECOND"), (0, u "Ljava/math/BigInteger;"), (120, .class_ 486), (0, u "java/lang/Comparable"), (0, .class_ 488), (0, u "java/io/Serializable"), (0, u "serialVersionUID")] 166

/-- java/time/Duration -/
def k46 : Class := { plain "java/time/Duration" (some 0) with
  accessFlags := 49
  interfaces := #[45, 17, 12]
  cf := some (fileOf pool46 11 #[.nestMembers #[269, 239, 79]] #[] 49 219 #[49, 485, 487] #[{ accessFlags := 25, nameIndex := 34, descriptorIndex := 35, attributes := #[] }, { accessFlags := 26, nameIndex := 489, descriptorIndex := 223, attributes := #[] }, { accessFlags := 26, nameIndex := 363, descriptorIndex := 364, attributes := #[] }, { accessFlags := 18, nameIndex := 117, descriptorIndex := 223, attributes := #[] }, { accessFlags := 18, nameIndex := 226, descriptorIndex := 227, attributes := #[] }])
  fields := #[{ name := "ZERO", type := (.object "java/time/Duration"), accessFlags := 25, slot := 0, constantValue := 0 }, { name := "serialVersionUID", type := .long, accessFlags := 26, slot := 1, constantValue := 0 }, { name := "BI_NANOS_PER_SECOND", type := (.object "java/math/BigInteger"), accessFlags := 26, slot := 2, constantValue := 0 }, { name := "seconds", type := .long, accessFlags := 18, slot := 0, constantValue := 0 }, { name := "nanos", type := .int, accessFlags := 18, slot := 1, constantValue := 0 }]
  methods := #[]
  instanceTypes := #[.long, .int]
  staticTypes := #[(.object "java/time/Duration"), .long, (.object "java/math/BigInteger")]
  resolved := Array.replicate 656 none
  statics := none }

def pool47 : Array CpInfo := pool [(2, .class_ 4), (1, u "java/lang/Object"), (3, .class_ 10), (1, u "com/example/deferline/deferline/books/AccountBooks$Units"), (0, u "source"), (0, u "Lcom/example/deferline/deferline/books/Source;"), (2, u "fund"), (0, u "Ljava/lang/String;"), (2, u "longer"), (0, u "Ljava/math/BigDecimal;"), (2, u "unscaled"), (0, u "J"), (2, u "scale"), (0, u "I"), (28, u "LONG_DIGITS"), (10, .class_ 69), (0, u "com/example/deferline/deferline/books/AccountBooks")] 2

/-- com/example/deferline/deferline/books/AccountBooks$Units -/
def k47 : Class := { plain "com/example/deferline/deferline/books/AccountBooks$Units" (some 0) with
  accessFlags := 32
  interfaces := #[]
  cf := some (fileOf pool47 8 #[.nestHost 68] #[] 32 2 #[] #[{ accessFlags := 26, nameIndex := 57, descriptorIndex := 28, attributes := #[] }, { accessFlags := 18, nameIndex := 11, descriptorIndex := 12, attributes := #[] }, { accessFlags := 18, nameIndex := 15, descriptorIndex := 16, attributes := #[] }, { accessFlags := 2, nameIndex := 23, descriptorIndex := 24, attributes := #[] }, { accessFlags := 2, nameIndex := 27, descriptorIndex := 28, attributes := #[] }, { accessFlags := 2, nameIndex := 19, descriptorIndex := 20, attributes := #[] }])
  fields := #[{ name := "LONG_DIGITS", type := .int, accessFlags := 26, slot := 0, constantValue := 0 }, { name := "source", type := (.object "com/example/deferline/deferline/books/Source"), accessFlags := 18, slot := 0, constantValue := 0 }, { name := "fund", type := (.object "java/lang/String"), accessFlags := 18, slot := 1, constantValue := 0 }, { name := "unscaled", type := .long, accessFlags := 2, slot := 2, constantValue := 0 }, { name := "scale", type := .int, accessFlags := 2, slot := 3, constantValue := 0 }, { name := "longer", type := (.object "java/math/BigDecimal"), accessFlags := 2, slot := 4, constantValue := 0 }]
  methods := #[]
  instanceTypes := #[(.object "com/example/deferline/deferline/books/Source"), (.object "java/lang/String"), .long, .int, (.object "java/math/BigDecimal")]
  staticTypes := #[.int]
  resolved := Array.replicate 72 none
  statics := none }

def pool48 : Array CpInfo := pool [(1, u "java/lang/Class"), (0, .class_ 1), (0, u "java/lang/Object"), (0, .class_ 3)] 3

/-- java/lang/Class -/
def k48 : Class := { plain "java/lang/Class" (some 0) with
  accessFlags := 49
  interfaces := #[]
  cf := some (fileOf pool48 2 #[] #[] 49 4 #[] #[])
  fields := #[]
  methods := #[]
  instanceTypes := #[]
  staticTypes := #[]
  resolved := Array.replicate 8 none
  statics := none }

/-- the primitive byte -/
def k49 : Class := { plain "byte" none with kind := .primitive 'B', accessFlags := 0x411 }
/-- [B -/
def k50 : Class := { plain "[B" (some 0) with kind := .array 49 .byte, interfaces := #[11, 12], accessFlags := 1041 }

/-- the primitive int -/
def k51 : Class := { plain "int" none with kind := .primitive 'I', accessFlags := 0x411 }
/-- [I -/
def k52 : Class := { plain "[I" (some 0) with kind := .array 51 .int, interfaces := #[11, 12], accessFlags := 1041 }

/-- the primitive long -/
def k53 : Class := { plain "long" none with kind := .primitive 'J', accessFlags := 0x411 }
/-- [J -/
def k54 : Class := { plain "[J" (some 0) with kind := .array 53 .long, interfaces := #[11, 12], accessFlags := 1041 }

/-- [Lcom/example/deferline/deferline/books/AccountBooks$Units; -/
def k55 : Class := { plain "[Lcom/example/deferline/deferline/books/AccountBooks$Units;" (some 0) with kind := .array 47 (.object "com/example/deferline/deferline/books/AccountBooks$Units"), interfaces := #[11, 12], accessFlags := 1041 }

/-- [Ljava/lang/Object; -/
def k56 : Class := { plain "[Ljava/lang/Object;" (some 0) with kind := .array 0 (.object "java/lang/Object"), interfaces := #[11, 12], accessFlags := 1041 }

def classes0 : Array Class := #[k0, k1, k2, k3, k4, k5, k6, k7, k8, k9, k10, k11, k12, k13, k14, k15, k16, k17, k18, k19, k20, k21, k22, k23, k24, k25, k26, k27, k28, k29, k30, k31, k32, k33, k34, k35, k36, k37, k38, k39, k40, k41, k42, k43, k44, k45, k46, k47, k48, k49, k50, k51, k52, k53, k54, k55, k56]
/-- the class that the rule has made for the site at 3 of com/example/deferline/deferline/io/KeptState$Reader.date -/
def k57 : Class := Jvm.LamKit.madeRec { classes := classes0 } "com/example/deferline/deferline/io/KeptState$Reader" (Jvm.Lambda.Shape.mk "com/example/deferline/deferline/io/KeptState$Whole" "read" (Jvm.ClassFile.MethodDescriptor.mk ([(Jvm.ClassFile.FieldType.object "com/example/deferline/deferline/io/KeptState$Reader")] : List Jvm.ClassFile.FieldType) (Option.some (Jvm.ClassFile.FieldType.object "java/lang/Object"))) ([] : List Jvm.ClassFile.FieldType) (5 : Nat) "com/example/deferline/deferline/io/KeptState$Reader" "wholeDate" (Jvm.ClassFile.MethodDescriptor.mk ([] : List Jvm.ClassFile.FieldType) (Option.some (Jvm.ClassFile.FieldType.object "java/time/LocalDate"))) false (Jvm.ClassFile.MethodDescriptor.mk ([(Jvm.ClassFile.FieldType.object "com/example/deferline/deferline/io/KeptState$Reader")] : List Jvm.ClassFile.FieldType) (Option.some (Jvm.ClassFile.FieldType.object "java/time/LocalDate")))) 57

def heap : Heap := #[{ cls := 2, slots := #[.long 0, .ref 12, .int 0], vm := .statics 2 },
  { cls := 13, slots := #[.long 0, .int 0, .ref 20, .ref 21], vm := .statics 13 },
  { cls := 19, slots := #[.ref 22, .ref 23, .null, .long 0, .int 0, .long 0], vm := .statics 19 },
  { cls := 23, slots := #[.long 0, .int 0, .null, .null, .ref 12, .null, .ref 13, .null, .int 0, .int 0], vm := .statics 23 },
  { cls := 27, slots := #[.ref 24, .long 0, .long 0], vm := .statics 27 },
  { cls := 31, slots := #[.null, .null, .null, .null, .null, .null, .null, .null, .null, .null, .null, .null, .null, .null, .null, .null, .null, .null, .null, .null, .ref 19, .null, .null, .null, .null, .null, .null, .null, .null, .null, .null], vm := .statics 31 },
  { cls := 34, slots := #[.ref 11], vm := .statics 34 },
  { cls := 36, slots := #[.null, .null, .null, .null, .null, .null, .null, .ref 16, .null, .null, .null, .null, .null, .null, .null, .ref 17, .null], vm := .statics 36 },
  { cls := 48, slots := #[], vm := .mirror 19 },
  { cls := 57, slots := #[], vm := .none },
  { cls := 56, slots := #[], vm := .none },
  { cls := 55, slots := #[], vm := .none },
  { cls := 39, slots := #[.ref 10, .int 0], vm := .none },
  { cls := 41, slots := #[.ref 10, .int 0], vm := .none },
  { cls := 44, slots := #[.null, .int 0, .int 0, .int 0], vm := .none },
  { cls := 46, slots := #[.long 0, .int 0], vm := .none },
  { cls := 36, slots := #[.ref 14, .int 7, .int 0, .ref 14, .ref 15], vm := .none },
  { cls := 36, slots := #[.ref 14, .int 15, .int 0, .ref 14, .ref 15], vm := .none },
  { cls := 32, slots := #[.long (-365243219162), .long (-365243219162), .long 365241780471, .long 365241780471], vm := .none },
  { cls := 31, slots := #[.ref 14, .int 20, .int 0, .ref 14, .ref 16, .ref 17, .ref 18, .null], vm := .none },
  { cls := 56, slots := #[], vm := .none },
  { cls := 56, slots := #[], vm := .none },
  { cls := 19, slots := #[.int (-999999999), .int 1, .int 1], vm := .none },
  { cls := 19, slots := #[.int 999999999, .int 12, .int 31], vm := .none },
  { cls := 27, slots := #[], vm := .none }]
def classes : Array Class := #[k0, k1, k2, k3, k4, k5, k6, k7, k8, k9, k10, k11, k12, k13, k14, k15, k16, k17, k18, k19, k20, k21, k22, k23, k24, k25, k26, k27, k28, k29, k30, k31, k32, k33, k34, k35, k36, k37, k38, k39, k40, k41, k42, k43, k44, k45, k46, k47, k48, k49, k50, k51, k52, k53, k54, k55, k56, k57]
def interned : List (Array UInt16 × Addr) := []
def slotsUsed : Nat := 113
def theMethod : MethodId := ⟨1, 1⟩
def args0 : Array Value := #[.int 63, .int 5, .int 7]
def aboutOver (below : List Frame) : State where
  vm := { classes := classes, interned := interned.toArray }
  heap := heap
  slotsUsed := slotsUsed
  threads := #[{ frames := .invoking theMethod args0 :: below }]
def below0 : List Frame := [.native { method := ⟨0, 0⟩, args := #[] }]
def about1 : State := aboutOver below0
def p0 : Program := .bare "" "" ""
def e0 : Env := launch0.env 0 0 0
theorem w_frames : about1.frames = Frame.invoking theMethod args0 :: below0 := rfl
theorem w_args : argsFit about1.vm theMethod args0 = true := by decide +kernel
theorem w_heap : heapFits about1 = true := by decide +kernel
theorem w_runnable : about1.curStatus? = some .runnable := by decide +kernel
theorem w_alone : about1.alone = true := by decide +kernel
theorem w_named : about1.methodNamed? x = some theMethod := by decide +kernel
theorem w_hears : about1.hears theMethod below0 = true := by decide +kernel
theorem w_ripe : about1.ripe theMethod args0 below0 = true := by decide +kernel
theorem w_running : about1.status = .running := rfl
theorem w_room : about1.hasRoom e0.platform room_1 = true :=
  launch0.hasRoom_least _ room_1 (by decide +kernel) (by decide +kernel) (by decide +kernel) (by decide +kernel) (by decide +kernel) (by decide +kernel)
theorem allAtoms_all (ts : List Jvm.Cond) (a : Array Jvm.Value) (st : Jvm.State) : (allAtoms ts).before a st = ts.all (fun c => c.before a st) := by
  induction ts with
  | nil => rfl
  | cons c t ih =>
    show (Jvm.Cond.and c (allAtoms t)).before a st = _
    rw [Jvm.Cond.before_and, ih, List.all_cons]
def words1 : List Jvm.Cond := Jvm.Cond.code x code maxLocals ret :: tables_1
/-- a 'code' word, met by the world's own term for the bytes: nothing is compared byte by byte -/
theorem code_word {y : MethodName} {bytes : ByteArray} {mx : Nat} {rt : Option FieldType} {a : Array Value} {s : State} {m : MethodId} {meth : Method} {c : Code} (h1 : s.methodNamed? y = some m) (h2 : s.vm.method? m = some meth) (h3 : meth.code = some c) (h4 : c.code = bytes)
    (h5 : (c.maxLocals == mx && c.exceptionTable.isEmpty && decide (c.maxStack ≤ mostOperands) && decide (meth.sig.returnType = rt) && !meth.locks && decide (parseMethodDescriptor y.desc = some meth.sig)) = true) : (Jvm.Cond.code y bytes mx rt).before a s = true := by
  simp only [Bool.and_eq_true, beq_iff_eq, Bool.not_eq_true', decide_eq_true_eq] at h5
  obtain ⟨⟨⟨⟨⟨g1, g2⟩, g3⟩, g4⟩, g5⟩, g6⟩ := h5
  simp [Cond.before, Cond.holds, Cond.value, h1, h2, h3, h4, g1, g2, g3, g4, g5, g6]
def isCode : Jvm.Cond → Bool
  | .code _ _ _ _ => true
  | _ => false
theorem all_split {L : List Jvm.Cond} {P : Jvm.Cond → Bool} (h1 : L.all (fun c => isCode c || P c) = true) (h2 : ∀ c ∈ L.filter isCode, P c = true) : L.all P = true := by
  refine List.all_eq_true.mpr fun c hc => ?_
  have h := List.all_eq_true.mp h1 c hc
  rcases Bool.eq_false_or_eq_true (isCode c) with hi | hi
  · exact h2 c (List.mem_filter.mpr ⟨hc, hi⟩)
  · simpa [hi] using h
theorem w_c0 : (Jvm.Cond.code x code maxLocals ret).before args0 about1 = true := code_word (m := ⟨1, 1⟩) (meth := k1m1) (c := k1c1) (by decide +kernel) rfl rfl rfl (by decide +kernel)
theorem w_c1 : (Jvm.Cond.code ({ cls := "com/example/deferline/deferline/books/Ledger", name := "<init>", desc := "()V" } : Jvm.MethodName) prog_11_method_1_code (1 : Nat) (Option.none : Option Jvm.ClassFile.FieldType)).before args0 about1 = true := code_word (m := ⟨2, 0⟩) (meth := k2m0) (c := k2c0) (by decide +kernel) rfl rfl rfl (by decide +kernel)
theorem w_c2 : (Jvm.Cond.code ({ cls := "com/example/deferline/deferline/books/Ledger", name := "<init>", desc := "(Lcom/example/deferline/deferline/books/Folding;Lcom/example/deferline/deferline/books/Ledger$Posting;Lcom/example/deferline/deferline/books/Participant;Ljava/lang/String;)V" } : Jvm.MethodName) prog_11_method_2_code (5 : Nat) (Option.none : Option Jvm.ClassFile.FieldType)).before args0 about1 = true := code_word (m := ⟨2, 1⟩) (meth := k2m1) (c := k2c1) (by decide +kernel) rfl rfl rfl (by decide +kernel)
theorem w_c3 : (Jvm.Cond.code ({ cls := "java/lang/Object", name := "<init>", desc := "()V" } : Jvm.MethodName) object_method_1_code (1 : Nat) (Option.none : Option Jvm.ClassFile.FieldType)).before args0 about1 = true := code_word (m := ⟨0, 0⟩) (meth := k0m0) (c := k0c0) (by decide +kernel) rfl rfl rfl (by decide +kernel)
theorem w_c4 : (Jvm.Cond.code ({ cls := "com/example/deferline/deferline/io/KeptState$Reader", name := "<init>", desc := "([BII)V" } : Jvm.MethodName) prog_38_method_1_code (4 : Nat) (Option.none : Option Jvm.ClassFile.FieldType)).before args0 about1 = true := code_word (m := ⟨3, 0⟩) (meth := k3m0) (c := k3c0) (by decide +kernel) rfl rfl rfl (by decide +kernel)
theorem w_c5 : (Jvm.Cond.code ({ cls := "java/util/ArrayList", name := "<init>", desc := "()V" } : Jvm.MethodName) jdk_38_method_2_code (1 : Nat) (Option.none : Option Jvm.ClassFile.FieldType)).before args0 about1 = true := code_word (m := ⟨13, 0⟩) (meth := k13m0) (c := k13c0) (by decide +kernel) rfl rfl rfl (by decide +kernel)
theorem w_c6 : (Jvm.Cond.code ({ cls := "java/util/AbstractList", name := "<init>", desc := "()V" } : Jvm.MethodName) jdk_39_method_1_code (1 : Nat) (Option.none : Option Jvm.ClassFile.FieldType)).before args0 about1 = true := code_word (m := ⟨9, 0⟩) (meth := k9m0) (c := k9c0) (by decide +kernel) rfl rfl rfl (by decide +kernel)
theorem w_c7 : (Jvm.Cond.code ({ cls := "java/util/AbstractCollection", name := "<init>", desc := "()V" } : Jvm.MethodName) jdk_22_method_1_code (1 : Nat) (Option.none : Option Jvm.ClassFile.FieldType)).before args0 about1 = true := code_word (m := ⟨6, 0⟩) (meth := k6m0) (c := k6c0) (by decide +kernel) rfl rfl rfl (by decide +kernel)
theorem w_c8 : (Jvm.Cond.code ({ cls := "com/example/deferline/deferline/books/Ledger", name := "restore", desc := "(Lcom/example/deferline/deferline/io/KeptState$Reader;Lcom/example/deferline/deferline/books/LedgerEntry$Kept;)V" } : Jvm.MethodName) prog_11_method_3_code (4 : Nat) (Option.none : Option Jvm.ClassFile.FieldType)).before args0 about1 = true := code_word (m := ⟨2, 2⟩) (meth := k2m2) (c := k2c2) (by decide +kernel) rfl rfl rfl (by decide +kernel)
theorem w_c9 : (Jvm.Cond.code ({ cls := "com/example/deferline/deferline/io/KeptState$Reader", name := "count", desc := "()I" } : Jvm.MethodName) prog_38_method_3_code (3 : Nat) (Option.some Jvm.ClassFile.FieldType.int)).before args0 about1 = true := code_word (m := ⟨3, 2⟩) (meth := k3m2) (c := k3c2) (by decide +kernel) rfl rfl rfl (by decide +kernel)
theorem w_c10 : (Jvm.Cond.code ({ cls := "com/example/deferline/deferline/io/KeptState$Reader", name := "number", desc := "()J" } : Jvm.MethodName) prog_38_method_2_code (5 : Nat) (Option.some Jvm.ClassFile.FieldType.long)).before args0 about1 = true := code_word (m := ⟨3, 1⟩) (meth := k3m1) (c := k3c1) (by decide +kernel) rfl rfl rfl (by decide +kernel)
theorem w_c11 : (Jvm.Cond.code ({ cls := "com/example/deferline/deferline/io/KeptState$Reader", name := "next", desc := "()B" } : Jvm.MethodName) prog_38_method_13_code (1 : Nat) (Option.some Jvm.ClassFile.FieldType.byte)).before args0 about1 = true := code_word (m := ⟨3, 7⟩) (meth := k3m7) (c := k3c7) (by decide +kernel) rfl rfl rfl (by decide +kernel)
theorem w_c12 : (Jvm.Cond.code ({ cls := "com/example/deferline/deferline/io/KeptState$Reader", name := "flag", desc := "()Z" } : Jvm.MethodName) prog_38_method_4_code (2 : Nat) (Option.some Jvm.ClassFile.FieldType.boolean)).before args0 about1 = true := code_word (m := ⟨3, 3⟩) (meth := k3m3) (c := k3c3) (by decide +kernel) rfl rfl rfl (by decide +kernel)
theorem w_c13 : (Jvm.Cond.code ({ cls := "com/example/deferline/deferline/io/KeptState$Reader", name := "date", desc := "()Ljava/time/LocalDate;" } : Jvm.MethodName) prog_38_method_7_code (1 : Nat) (Option.some (Jvm.ClassFile.FieldType.object "java/time/LocalDate"))).before args0 about1 = true := code_word (m := ⟨3, 4⟩) (meth := k3m4) (c := k3c4) (by decide +kernel) rfl rfl rfl (by decide +kernel)
theorem w_c14 : (Jvm.Cond.code ({ cls := "com/example/deferline/deferline/io/KeptState$Reader", name := "once", desc := "(Ljava/lang/Class;Lcom/example/deferline/deferline/io/KeptState$Whole;)Ljava/lang/Object;" } : Jvm.MethodName) prog_38_method_9_code (6 : Nat) (Option.some (Jvm.ClassFile.FieldType.object "java/lang/Object"))).before args0 about1 = true := code_word (m := ⟨3, 5⟩) (meth := k3m5) (c := k3c5) (by decide +kernel) rfl rfl rfl (by decide +kernel)
theorem w_c15 : (Jvm.Cond.code ({ cls := "com/example/deferline/deferline/books/Ledger", name := "epochDay", desc := "(Ljava/time/LocalDate;)J" } : Jvm.MethodName) prog_11_method_31_code (1 : Nat) (Option.some Jvm.ClassFile.FieldType.long)).before args0 about1 = true := code_word (m := ⟨2, 4⟩) (meth := k2m4) (c := k2c4) (by decide +kernel) rfl rfl rfl (by decide +kernel)
theorem w_c16 : (Jvm.Cond.code ({ cls := "com/example/deferline/deferline/books/Ledger", name := "carried", desc := "()Lcom/example/deferline/deferline/books/AccountBooks;" } : Jvm.MethodName) prog_11_method_14_code (1 : Nat) (Option.some (Jvm.ClassFile.FieldType.object "com/example/deferline/deferline/books/AccountBooks"))).before args0 about1 = true := code_word (m := ⟨2, 3⟩) (meth := k2m3) (c := k2c3) (by decide +kernel) rfl rfl rfl (by decide +kernel)
theorem w_c17 : (Jvm.Cond.code ({ cls := "com/example/deferline/deferline/books/Folding", name := "<init>", desc := "(Ljava/time/LocalDate;Lcom/example/deferline/deferline/market/Funds;Lcom/example/deferline/deferline/market/TradingCalendar;)V" } : Jvm.MethodName) prog_10_method_1_code (4 : Nat) (Option.none : Option Jvm.ClassFile.FieldType)).before args0 about1 = true := code_word (m := ⟨21, 0⟩) (meth := k21m0) (c := k21c0) (by decide +kernel) rfl rfl rfl (by decide +kernel)
theorem w_c18 : (Jvm.Cond.code ({ cls := "java/util/Set", name := "of", desc := "()Ljava/util/Set;" } : Jvm.MethodName) jdk_96_method_17_code (0 : Nat) (Option.some (Jvm.ClassFile.FieldType.object "java/util/Set"))).before args0 about1 = true := code_word (m := ⟨22, 0⟩) (meth := k22m0) (c := k22c0) (by decide +kernel) rfl rfl rfl (by decide +kernel)
theorem w_c19 : (Jvm.Cond.code ({ cls := "com/example/deferline/deferline/books/Folding", name := "<init>", desc := "(Ljava/time/LocalDate;Lcom/example/deferline/deferline/market/Funds;Lcom/example/deferline/deferline/market/TradingCalendar;Ljava/util/Set;)V" } : Jvm.MethodName) prog_10_method_2_code (5 : Nat) (Option.none : Option Jvm.ClassFile.FieldType)).before args0 about1 = true := code_word (m := ⟨21, 1⟩) (meth := k21m1) (c := k21c1) (by decide +kernel) rfl rfl rfl (by decide +kernel)
theorem w_c20 : (Jvm.Cond.code ({ cls := "com/example/deferline/deferline/io/KeptState$Reader", name := "wholeDate", desc := "()Ljava/time/LocalDate;" } : Jvm.MethodName) prog_38_method_11_code (3 : Nat) (Option.some (Jvm.ClassFile.FieldType.object "java/time/LocalDate"))).before args0 about1 = true := code_word (m := ⟨3, 6⟩) (meth := k3m6) (c := k3c6) (by decide +kernel) rfl rfl rfl (by decide +kernel)
theorem w_c21 : (Jvm.Cond.code ({ cls := "com/example/deferline/deferline/io/KeptState", name := "unzigzag", desc := "(J)J" } : Jvm.MethodName) prog_37_method_3_code (2 : Nat) (Option.some Jvm.ClassFile.FieldType.long)).before args0 about1 = true := code_word (m := ⟨24, 1⟩) (meth := k24m1) (c := k24c1) (by decide +kernel) rfl rfl rfl (by decide +kernel)
theorem w_c22 : (Jvm.Cond.code ({ cls := "java/time/LocalDate", name := "toEpochDay", desc := "()J" } : Jvm.MethodName) jdk_2323_method_67_code (7 : Nat) (Option.some Jvm.ClassFile.FieldType.long)).before args0 about1 = true := code_word (m := ⟨19, 3⟩) (meth := k19m3) (c := k19c3) (by decide +kernel) rfl rfl rfl (by decide +kernel)
theorem w_c23 : (Jvm.Cond.code ({ cls := "java/time/LocalDate", name := "isLeapYear", desc := "()Z" } : Jvm.MethodName) jdk_2323_method_30_code (1 : Nat) (Option.some Jvm.ClassFile.FieldType.boolean)).before args0 about1 = true := code_word (m := ⟨19, 2⟩) (meth := k19m2) (c := k19c2) (by decide +kernel) rfl rfl rfl (by decide +kernel)
theorem w_c24 : (Jvm.Cond.code ({ cls := "java/time/chrono/IsoChronology", name := "isLeapYear", desc := "(J)Z" } : Jvm.MethodName) jdk_2369_method_18_code (3 : Nat) (Option.some Jvm.ClassFile.FieldType.boolean)).before args0 about1 = true := code_word (m := ⟨27, 1⟩) (meth := k27m1) (c := k27c1) (by decide +kernel) rfl rfl rfl (by decide +kernel)
theorem w_c25 : (Jvm.Cond.code ({ cls := "java/time/LocalDate", name := "ofEpochDay", desc := "(J)Ljava/time/LocalDate;" } : Jvm.MethodName) jdk_2323_method_8_code (14 : Nat) (Option.some (Jvm.ClassFile.FieldType.object "java/time/LocalDate"))).before args0 about1 = true := code_word (m := ⟨19, 0⟩) (meth := k19m0) (c := k19c0) (by decide +kernel) rfl rfl rfl (by decide +kernel)
theorem w_c26 : (Jvm.Cond.code ({ cls := "java/time/temporal/ChronoField", name := "checkValidValue", desc := "(J)J" } : Jvm.MethodName) jdk_2395_method_11_code (3 : Nat) (Option.some Jvm.ClassFile.FieldType.long)).before args0 about1 = true := code_word (m := ⟨31, 1⟩) (meth := k31m1) (c := k31c1) (by decide +kernel) rfl rfl rfl (by decide +kernel)
theorem w_c27 : (Jvm.Cond.code ({ cls := "java/time/temporal/ChronoField", name := "range", desc := "()Ljava/time/temporal/ValueRange;" } : Jvm.MethodName) jdk_2395_method_8_code (1 : Nat) (Option.some (Jvm.ClassFile.FieldType.object "java/time/temporal/ValueRange"))).before args0 about1 = true := code_word (m := ⟨31, 0⟩) (meth := k31m0) (c := k31c0) (by decide +kernel) rfl rfl rfl (by decide +kernel)
theorem w_c28 : (Jvm.Cond.code ({ cls := "java/time/temporal/ValueRange", name := "checkValidValue", desc := "(JLjava/time/temporal/TemporalField;)J" } : Jvm.MethodName) jdk_2423_method_13_code (4 : Nat) (Option.some Jvm.ClassFile.FieldType.long)).before args0 about1 = true := code_word (m := ⟨32, 3⟩) (meth := k32m3) (c := k32c3) (by decide +kernel) rfl rfl rfl (by decide +kernel)
theorem w_c29 : (Jvm.Cond.code ({ cls := "java/time/temporal/ValueRange", name := "isValidValue", desc := "(J)Z" } : Jvm.MethodName) jdk_2423_method_11_code (3 : Nat) (Option.some Jvm.ClassFile.FieldType.boolean)).before args0 about1 = true := code_word (m := ⟨32, 2⟩) (meth := k32m2) (c := k32c2) (by decide +kernel) rfl rfl rfl (by decide +kernel)
theorem w_c30 : (Jvm.Cond.code ({ cls := "java/time/temporal/ValueRange", name := "getMinimum", desc := "()J" } : Jvm.MethodName) jdk_2423_method_6_code (1 : Nat) (Option.some Jvm.ClassFile.FieldType.long)).before args0 about1 = true := code_word (m := ⟨32, 0⟩) (meth := k32m0) (c := k32c0) (by decide +kernel) rfl rfl rfl (by decide +kernel)
theorem w_c31 : (Jvm.Cond.code ({ cls := "java/time/temporal/ValueRange", name := "getMaximum", desc := "()J" } : Jvm.MethodName) jdk_2423_method_9_code (1 : Nat) (Option.some Jvm.ClassFile.FieldType.long)).before args0 about1 = true := code_word (m := ⟨32, 1⟩) (meth := k32m1) (c := k32c1) (by decide +kernel) rfl rfl rfl (by decide +kernel)
theorem w_c32 : (Jvm.Cond.code ({ cls := "java/time/LocalDate", name := "<init>", desc := "(III)V" } : Jvm.MethodName) jdk_2323_method_14_code (4 : Nat) (Option.none : Option Jvm.ClassFile.FieldType)).before args0 about1 = true := code_word (m := ⟨19, 1⟩) (meth := k19m1) (c := k19c1) (by decide +kernel) rfl rfl rfl (by decide +kernel)
theorem w_c33 : (Jvm.Cond.code ({ cls := "java/util/ArrayList", name := "add", desc := "(Ljava/lang/Object;)Z" } : Jvm.MethodName) jdk_38_method_25_code (2 : Nat) (Option.some Jvm.ClassFile.FieldType.boolean)).before args0 about1 = true := code_word (m := ⟨13, 4⟩) (meth := k13m4) (c := k13c4) (by decide +kernel) rfl rfl rfl (by decide +kernel)
theorem w_c34 : (Jvm.Cond.code ({ cls := "java/util/ArrayList", name := "add", desc := "(Ljava/lang/Object;[Ljava/lang/Object;I)V" } : Jvm.MethodName) jdk_38_method_24_code (4 : Nat) (Option.none : Option Jvm.ClassFile.FieldType)).before args0 about1 = true := code_word (m := ⟨13, 3⟩) (meth := k13m3) (c := k13c3) (by decide +kernel) rfl rfl rfl (by decide +kernel)
theorem w_c35 : (Jvm.Cond.code ({ cls := "java/util/ArrayList", name := "grow", desc := "()[Ljava/lang/Object;" } : Jvm.MethodName) jdk_38_method_7_code (1 : Nat) (Option.some (Jvm.ClassFile.FieldType.array (Jvm.ClassFile.FieldType.object "java/lang/Object")))).before args0 about1 = true := code_word (m := ⟨13, 2⟩) (meth := k13m2) (c := k13c2) (by decide +kernel) rfl rfl rfl (by decide +kernel)
theorem w_c36 : (Jvm.Cond.code ({ cls := "java/util/ArrayList", name := "grow", desc := "(I)[Ljava/lang/Object;" } : Jvm.MethodName) jdk_38_method_6_code (4 : Nat) (Option.some (Jvm.ClassFile.FieldType.array (Jvm.ClassFile.FieldType.object "java/lang/Object")))).before args0 about1 = true := code_word (m := ⟨13, 1⟩) (meth := k13m1) (c := k13c1) (by decide +kernel) rfl rfl rfl (by decide +kernel)
theorem w_c37 : (Jvm.Cond.code ({ cls := "java/lang/Math", name := "max", desc := "(II)I" } : Jvm.MethodName) jdk_29_method_65_code (2 : Nat) (Option.some Jvm.ClassFile.FieldType.int)).before args0 about1 = true := code_word (m := ⟨33, 1⟩) (meth := k33m1) (c := k33c1) (by decide +kernel) rfl rfl rfl (by decide +kernel)
theorem w_c38 : (Jvm.Cond.code ({ cls := "com/example/deferline/deferline/books/Folding", name := "newBooks", desc := "()Lcom/example/deferline/deferline/books/AccountBooks;" } : Jvm.MethodName) prog_10_method_9_code (1 : Nat) (Option.some (Jvm.ClassFile.FieldType.object "com/example/deferline/deferline/books/AccountBooks"))).before args0 about1 = true := code_word (m := ⟨21, 2⟩) (meth := k21m2) (c := k21c2) (by decide +kernel) rfl rfl rfl (by decide +kernel)
theorem w_c39 : (Jvm.Cond.code ({ cls := "com/example/deferline/deferline/books/AccountBooks", name := "<init>", desc := "(Lcom/example/deferline/deferline/market/Funds;Lcom/example/deferline/deferline/market/TradingCalendar;)V" } : Jvm.MethodName) prog_5_method_1_code (3 : Nat) (Option.none : Option Jvm.ClassFile.FieldType)).before args0 about1 = true := code_word (m := ⟨34, 0⟩) (meth := k34m0) (c := k34c0) (by decide +kernel) rfl rfl rfl (by decide +kernel)
theorem w_c40 : (Jvm.Cond.code ({ cls := "java/util/List", name := "of", desc := "()Ljava/util/List;" } : Jvm.MethodName) jdk_40_method_36_code (0 : Nat) (Option.some (Jvm.ClassFile.FieldType.object "java/util/List"))).before args0 about1 = true := code_word (m := ⟨8, 1⟩) (meth := k8m1) (c := k8c1) (by decide +kernel) rfl rfl rfl (by decide +kernel)
theorem w_c41 : (Jvm.Cond.code ({ cls := "com/example/deferline/deferline/books/AccountBooks", name := "restore", desc := "(Lcom/example/deferline/deferline/io/KeptState$Reader;)V" } : Jvm.MethodName) prog_5_method_9_code (3 : Nat) (Option.none : Option Jvm.ClassFile.FieldType)).before args0 about1 = true := code_word (m := ⟨34, 1⟩) (meth := k34m1) (c := k34c1) (by decide +kernel) rfl rfl rfl (by decide +kernel)
def codes1 : List Jvm.Cond := [Jvm.Cond.code x code maxLocals ret, Jvm.Cond.code ({ cls := "com/example/deferline/deferline/books/Ledger", name := "<init>", desc := "()V" } : Jvm.MethodName) prog_11_method_1_code (1 : Nat) (Option.none : Option Jvm.ClassFile.FieldType), Jvm.Cond.code ({ cls := "com/example/deferline/deferline/books/Ledger", name := "<init>", desc := "(Lcom/example/deferline/deferline/books/Folding;Lcom/example/deferline/deferline/books/Ledger$Posting;Lcom/example/deferline/deferline/books/Participant;Ljava/lang/String;)V" } : Jvm.MethodName) prog_11_method_2_code (5 : Nat) (Option.none : Option Jvm.ClassFile.FieldType), Jvm.Cond.code ({ cls := "java/lang/Object", name := "<init>", desc := "()V" } : Jvm.MethodName) object_method_1_code (1 : Nat) (Option.none : Option Jvm.ClassFile.FieldType), Jvm.Cond.code ({ cls := "com/example/deferline/deferline/io/KeptState$Reader", name := "<init>", desc := "([BII)V" } : Jvm.MethodName) prog_38_method_1_code (4 : Nat) (Option.none : Option Jvm.ClassFile.FieldType), Jvm.Cond.code ({ cls := "java/util/ArrayList", name := "<init>", desc := "()V" } : Jvm.MethodName) jdk_38_method_2_code (1 : Nat) (Option.none : Option Jvm.ClassFile.FieldType), Jvm.Cond.code ({ cls := "java/util/AbstractList", name := "<init>", desc := "()V" } : Jvm.MethodName) jdk_39_method_1_code (1 : Nat) (Option.none : Option Jvm.ClassFile.FieldType), Jvm.Cond.code ({ cls := "java/util/AbstractCollection", name := "<init>", desc := "()V" } : Jvm.MethodName) jdk_22_method_1_code (1 : Nat) (Option.none : Option Jvm.ClassFile.FieldType), Jvm.Cond.code ({ cls := "com/example/deferline/deferline/books/Ledger", name := "restore", desc := "(Lcom/example/deferline/deferline/io/KeptState$Reader;Lcom/example/deferline/deferline/books/LedgerEntry$Kept;)V" } : Jvm.MethodName) prog_11_method_3_code (4 : Nat) (Option.none : Option Jvm.ClassFile.FieldType), Jvm.Cond.code ({ cls := "com/example/deferline/deferline/io/KeptState$Reader", name := "count", desc := "()I" } : Jvm.MethodName) prog_38_method_3_code (3 : Nat) (Option.some Jvm.ClassFile.FieldType.int), Jvm.Cond.code ({ cls := "com/example/deferline/deferline/io/KeptState$Reader", name := "number", desc := "()J" } : Jvm.MethodName) prog_38_method_2_code (5 : Nat) (Option.some Jvm.ClassFile.FieldType.long), Jvm.Cond.code ({ cls := "com/example/deferline/deferline/io/KeptState$Reader", name := "next", desc := "()B" } : Jvm.MethodName) prog_38_method_13_code (1 : Nat) (Option.some Jvm.ClassFile.FieldType.byte), Jvm.Cond.code ({ cls := "com/example/deferline/deferline/io/KeptState$Reader", name := "flag", desc := "()Z" } : Jvm.MethodName) prog_38_method_4_code (2 : Nat) (Option.some Jvm.ClassFile.FieldType.boolean), Jvm.Cond.code ({ cls := "com/example/deferline/deferline/io/KeptState$Reader", name := "date", desc := "()Ljava/time/LocalDate;" } : Jvm.MethodName) prog_38_method_7_code (1 : Nat) (Option.some (Jvm.ClassFile.FieldType.object "java/time/LocalDate")), Jvm.Cond.code ({ cls := "com/example/deferline/deferline/io/KeptState$Reader", name := "once", desc := "(Ljava/lang/Class;Lcom/example/deferline/deferline/io/KeptState$Whole;)Ljava/lang/Object;" } : Jvm.MethodName) prog_38_method_9_code (6 : Nat) (Option.some (Jvm.ClassFile.FieldType.object "java/lang/Object")), Jvm.Cond.code ({ cls := "com/example/deferline/deferline/books/Ledger", name := "epochDay", desc := "(Ljava/time/LocalDate;)J" } : Jvm.MethodName) prog_11_method_31_code (1 : Nat) (Option.some Jvm.ClassFile.FieldType.long), Jvm.Cond.code ({ cls := "com/example/deferline/deferline/books/Ledger", name := "carried", desc := "()Lcom/example/deferline/deferline/books/AccountBooks;" } : Jvm.MethodName) prog_11_method_14_code (1 : Nat) (Option.some (Jvm.ClassFile.FieldType.object "com/example/deferline/deferline/books/AccountBooks")), Jvm.Cond.code ({ cls := "com/example/deferline/deferline/books/Folding", name := "<init>", desc := "(Ljava/time/LocalDate;Lcom/example/deferline/deferline/market/Funds;Lcom/example/deferline/deferline/market/TradingCalendar;)V" } : Jvm.MethodName) prog_10_method_1_code (4 : Nat) (Option.none : Option Jvm.ClassFile.FieldType), Jvm.Cond.code ({ cls := "java/util/Set", name := "of", desc := "()Ljava/util/Set;" } : Jvm.MethodName) jdk_96_method_17_code (0 : Nat) (Option.some (Jvm.ClassFile.FieldType.object "java/util/Set")), Jvm.Cond.code ({ cls := "com/example/deferline/deferline/books/Folding", name := "<init>", desc := "(Ljava/time/LocalDate;Lcom/example/deferline/deferline/market/Funds;Lcom/example/deferline/deferline/market/TradingCalendar;Ljava/util/Set;)V" } : Jvm.MethodName) prog_10_method_2_code (5 : Nat) (Option.none : Option Jvm.ClassFile.FieldType), Jvm.Cond.code ({ cls := "com/example/deferline/deferline/io/KeptState$Reader", name := "wholeDate", desc := "()Ljava/time/LocalDate;" } : Jvm.MethodName) prog_38_method_11_code (3 : Nat) (Option.some (Jvm.ClassFile.FieldType.object "java/time/LocalDate")), Jvm.Cond.code ({ cls := "com/example/deferline/deferline/io/KeptState", name := "unzigzag", desc := "(J)J" } : Jvm.MethodName) prog_37_method_3_code (2 : Nat) (Option.some Jvm.ClassFile.FieldType.long), Jvm.Cond.code ({ cls := "java/time/LocalDate", name := "toEpochDay", desc := "()J" } : Jvm.MethodName) jdk_2323_method_67_code (7 : Nat) (Option.some Jvm.ClassFile.FieldType.long), Jvm.Cond.code ({ cls := "java/time/LocalDate", name := "isLeapYear", desc := "()Z" } : Jvm.MethodName) jdk_2323_method_30_code (1 : Nat) (Option.some Jvm.ClassFile.FieldType.boolean), Jvm.Cond.code ({ cls := "java/time/chrono/IsoChronology", name := "isLeapYear", desc := "(J)Z" } : Jvm.MethodName) jdk_2369_method_18_code (3 : Nat) (Option.some Jvm.ClassFile.FieldType.boolean), Jvm.Cond.code ({ cls := "java/time/LocalDate", name := "ofEpochDay", desc := "(J)Ljava/time/LocalDate;" } : Jvm.MethodName) jdk_2323_method_8_code (14 : Nat) (Option.some (Jvm.ClassFile.FieldType.object "java/time/LocalDate")), Jvm.Cond.code ({ cls := "java/time/temporal/ChronoField", name := "checkValidValue", desc := "(J)J" } : Jvm.MethodName) jdk_2395_method_11_code (3 : Nat) (Option.some Jvm.ClassFile.FieldType.long), Jvm.Cond.code ({ cls := "java/time/temporal/ChronoField", name := "range", desc := "()Ljava/time/temporal/ValueRange;" } : Jvm.MethodName) jdk_2395_method_8_code (1 : Nat) (Option.some (Jvm.ClassFile.FieldType.object "java/time/temporal/ValueRange")), Jvm.Cond.code ({ cls := "java/time/temporal/ValueRange", name := "checkValidValue", desc := "(JLjava/time/temporal/TemporalField;)J" } : Jvm.MethodName) jdk_2423_method_13_code (4 : Nat) (Option.some Jvm.ClassFile.FieldType.long), Jvm.Cond.code ({ cls := "java/time/temporal/ValueRange", name := "isValidValue", desc := "(J)Z" } : Jvm.MethodName) jdk_2423_method_11_code (3 : Nat) (Option.some Jvm.ClassFile.FieldType.boolean), Jvm.Cond.code ({ cls := "java/time/temporal/ValueRange", name := "getMinimum", desc := "()J" } : Jvm.MethodName) jdk_2423_method_6_code (1 : Nat) (Option.some Jvm.ClassFile.FieldType.long), Jvm.Cond.code ({ cls := "java/time/temporal/ValueRange", name := "getMaximum", desc := "()J" } : Jvm.MethodName) jdk_2423_method_9_code (1 : Nat) (Option.some Jvm.ClassFile.FieldType.long), Jvm.Cond.code ({ cls := "java/time/LocalDate", name := "<init>", desc := "(III)V" } : Jvm.MethodName) jdk_2323_method_14_code (4 : Nat) (Option.none : Option Jvm.ClassFile.FieldType), Jvm.Cond.code ({ cls := "java/util/ArrayList", name := "add", desc := "(Ljava/lang/Object;)Z" } : Jvm.MethodName) jdk_38_method_25_code (2 : Nat) (Option.some Jvm.ClassFile.FieldType.boolean), Jvm.Cond.code ({ cls := "java/util/ArrayList", name := "add", desc := "(Ljava/lang/Object;[Ljava/lang/Object;I)V" } : Jvm.MethodName) jdk_38_method_24_code (4 : Nat) (Option.none : Option Jvm.ClassFile.FieldType), Jvm.Cond.code ({ cls := "java/util/ArrayList", name := "grow", desc := "()[Ljava/lang/Object;" } : Jvm.MethodName) jdk_38_method_7_code (1 : Nat) (Option.some (Jvm.ClassFile.FieldType.array (Jvm.ClassFile.FieldType.object "java/lang/Object"))), Jvm.Cond.code ({ cls := "java/util/ArrayList", name := "grow", desc := "(I)[Ljava/lang/Object;" } : Jvm.MethodName) jdk_38_method_6_code (4 : Nat) (Option.some (Jvm.ClassFile.FieldType.array (Jvm.ClassFile.FieldType.object "java/lang/Object"))), Jvm.Cond.code ({ cls := "java/lang/Math", name := "max", desc := "(II)I" } : Jvm.MethodName) jdk_29_method_65_code (2 : Nat) (Option.some Jvm.ClassFile.FieldType.int), Jvm.Cond.code ({ cls := "com/example/deferline/deferline/books/Folding", name := "newBooks", desc := "()Lcom/example/deferline/deferline/books/AccountBooks;" } : Jvm.MethodName) prog_10_method_9_code (1 : Nat) (Option.some (Jvm.ClassFile.FieldType.object "com/example/deferline/deferline/books/AccountBooks")), Jvm.Cond.code ({ cls := "com/example/deferline/deferline/books/AccountBooks", name := "<init>", desc := "(Lcom/example/deferline/deferline/market/Funds;Lcom/example/deferline/deferline/market/TradingCalendar;)V" } : Jvm.MethodName) prog_5_method_1_code (3 : Nat) (Option.none : Option Jvm.ClassFile.FieldType), Jvm.Cond.code ({ cls := "java/util/List", name := "of", desc := "()Ljava/util/List;" } : Jvm.MethodName) jdk_40_method_36_code (0 : Nat) (Option.some (Jvm.ClassFile.FieldType.object "java/util/List")), Jvm.Cond.code ({ cls := "com/example/deferline/deferline/books/AccountBooks", name := "restore", desc := "(Lcom/example/deferline/deferline/io/KeptState$Reader;)V" } : Jvm.MethodName) prog_5_method_9_code (3 : Nat) (Option.none : Option Jvm.ClassFile.FieldType)]
theorem codes_eq : words1.filter isCode = codes1 := rfl
theorem w_codes : ∀ c ∈ words1.filter isCode, c.before args0 about1 = true := by
  rw [codes_eq]
  intro c hc
  simp only [codes1, List.mem_cons, List.not_mem_nil, or_false] at hc
  rcases hc with rfl | rfl | rfl | rfl | rfl | rfl | rfl | rfl | rfl | rfl | rfl | rfl | rfl | rfl | rfl | rfl | rfl | rfl | rfl | rfl | rfl | rfl | rfl | rfl | rfl | rfl | rfl | rfl | rfl | rfl | rfl | rfl | rfl | rfl | rfl | rfl | rfl | rfl | rfl | rfl | rfl | rfl
  · exact w_c0
  · exact w_c1
  · exact w_c2
  · exact w_c3
  · exact w_c4
  · exact w_c5
  · exact w_c6
  · exact w_c7
  · exact w_c8
  · exact w_c9
  · exact w_c10
  · exact w_c11
  · exact w_c12
  · exact w_c13
  · exact w_c14
  · exact w_c15
  · exact w_c16
  · exact w_c17
  · exact w_c18
  · exact w_c19
  · exact w_c20
  · exact w_c21
  · exact w_c22
  · exact w_c23
  · exact w_c24
  · exact w_c25
  · exact w_c26
  · exact w_c27
  · exact w_c28
  · exact w_c29
  · exact w_c30
  · exact w_c31
  · exact w_c32
  · exact w_c33
  · exact w_c34
  · exact w_c35
  · exact w_c36
  · exact w_c37
  · exact w_c38
  · exact w_c39
  · exact w_c40
  · exact w_c41
theorem w_t1 : (words1.take 24).all (fun c => isCode c || c.before args0 about1) = true := by decide +kernel
theorem w_t2 : ((words1.drop 24).take 24).all (fun c => isCode c || c.before args0 about1) = true := by decide +kernel
theorem w_t3 : (((words1.drop 24).drop 24).take 24).all (fun c => isCode c || c.before args0 about1) = true := by decide +kernel
theorem w_t4 : ((((words1.drop 24).drop 24).drop 24).take 24).all (fun c => isCode c || c.before args0 about1) = true := by decide +kernel
theorem w_t5 : (((((words1.drop 24).drop 24).drop 24).drop 24).take 24).all (fun c => isCode c || c.before args0 about1) = true := by decide +kernel
theorem w_t6 : ((((((words1.drop 24).drop 24).drop 24).drop 24).drop 24).take 24).all (fun c => isCode c || c.before args0 about1) = true := by decide +kernel
theorem w_t7 : (((((((words1.drop 24).drop 24).drop 24).drop 24).drop 24).drop 24).take 24).all (fun c => isCode c || c.before args0 about1) = true := by decide +kernel
theorem w_t8 : ((((((((words1.drop 24).drop 24).drop 24).drop 24).drop 24).drop 24).drop 24).take 24).all (fun c => isCode c || c.before args0 about1) = true := by decide +kernel
theorem w_t9 : (((((((((words1.drop 24).drop 24).drop 24).drop 24).drop 24).drop 24).drop 24).drop 24).take 24).all (fun c => isCode c || c.before args0 about1) = true := by decide +kernel
theorem w_t10 : ((((((((((words1.drop 24).drop 24).drop 24).drop 24).drop 24).drop 24).drop 24).drop 24).drop 24).take 24).all (fun c => isCode c || c.before args0 about1) = true := by decide +kernel
theorem w_t11 : (((((((((((words1.drop 24).drop 24).drop 24).drop 24).drop 24).drop 24).drop 24).drop 24).drop 24).drop 24).take 24).all (fun c => isCode c || c.before args0 about1) = true := by decide +kernel
theorem w_t12 : ((((((((((((words1.drop 24).drop 24).drop 24).drop 24).drop 24).drop 24).drop 24).drop 24).drop 24).drop 24).drop 24).take 24).all (fun c => isCode c || c.before args0 about1) = true := by decide +kernel
theorem w_t13 : (((((((((((((words1.drop 24).drop 24).drop 24).drop 24).drop 24).drop 24).drop 24).drop 24).drop 24).drop 24).drop 24).drop 24).take 24).all (fun c => isCode c || c.before args0 about1) = true := by decide +kernel
theorem w_t14 : ((((((((((((((words1.drop 24).drop 24).drop 24).drop 24).drop 24).drop 24).drop 24).drop 24).drop 24).drop 24).drop 24).drop 24).drop 24).take 24).all (fun c => isCode c || c.before args0 about1) = true := by decide +kernel
theorem w_t15 : ((((((((((((((words1.drop 24).drop 24).drop 24).drop 24).drop 24).drop 24).drop 24).drop 24).drop 24).drop 24).drop 24).drop 24).drop 24).drop 24).all (fun c => isCode c || c.before args0 about1) = true := by decide +kernel
theorem w_tables : (allAtoms (Jvm.Cond.code x code maxLocals ret :: tables_1)).before args0 about1 = true := by
  rw [allAtoms_all]
  show words1.all (fun c => c.before args0 about1) = true
  refine all_split ?_ w_codes
  rw [← List.take_append_drop 24 words1, List.all_append, w_t1, ← List.take_append_drop 24 (words1.drop 24), List.all_append, w_t2, ← List.take_append_drop 24 ((words1.drop 24).drop 24), List.all_append, w_t3, ← List.take_append_drop 24 (((words1.drop 24).drop 24).drop 24), List.all_append, w_t4, ← List.take_append_drop 24 ((((words1.drop 24).drop 24).drop 24).drop 24), List.all_append, w_t5, ← List.take_append_drop 24 (((((words1.drop 24).drop 24).drop 24).drop 24).drop 24), List.all_append, w_t6, ← List.take_append_drop 24 ((((((words1.drop 24).drop 24).drop 24).drop 24).drop 24).drop 24), List.all_append, w_t7, ← List.take_append_drop 24 (((((((words1.drop 24).drop 24).drop 24).drop 24).drop 24).drop 24).drop 24), List.all_append, w_t8, ← List.take_append_drop 24 ((((((((words1.drop 24).drop 24).drop 24).drop 24).drop 24).drop 24).drop 24).drop 24), List.all_append, w_t9, ← List.take_append_drop 24 (((((((((words1.drop 24).drop 24).drop 24).drop 24).drop 24).drop 24).drop 24).drop 24).drop 24), List.all_append, w_t10, ← List.take_append_drop 24 ((((((((((words1.drop 24).drop 24).drop 24).drop 24).drop 24).drop 24).drop 24).drop 24).drop 24).drop 24), List.all_append, w_t11, ← List.take_append_drop 24 (((((((((((words1.drop 24).drop 24).drop 24).drop 24).drop 24).drop 24).drop 24).drop 24).drop 24).drop 24).drop 24), List.all_append, w_t12, ← List.take_append_drop 24 ((((((((((((words1.drop 24).drop 24).drop 24).drop 24).drop 24).drop 24).drop 24).drop 24).drop 24).drop 24).drop 24).drop 24), List.all_append, w_t13, ← List.take_append_drop 24 (((((((((((((words1.drop 24).drop 24).drop 24).drop 24).drop 24).drop 24).drop 24).drop 24).drop 24).drop 24).drop 24).drop 24).drop 24), List.all_append, w_t14, w_t15]
  rfl
theorem w_rest : rest_1_c.before args0 about1 = true := by decide +kernel
theorem w_case : (Jvm.Cond.and given_1 narrow_1).before args0 about1 = true := by decide +kernel
theorem w_applies : (headSpec (Jvm.Cond.code x code maxLocals ret :: tables_1) room_1).applies x e0.platform about1 = true :=
  (Spec.applies_iff w_frames).mpr ⟨w_running, w_runnable, w_alone, w_named, w_hears, w_ripe, w_room, w_tables⟩
theorem atStart : AtStart classFile x code maxLocals ret World_1 tables_1 room_1 Calls_1 rest_1 Pre_1 launch0 p0 e0 about1 theMethod args0 below0 :=
  ⟨lists_1, trivial, launch0.admits_env _ _ _, launch0.least_env, fairChoices_fair.cas, fairChoices_fair.clock, w_frames, w_args, w_heap, w_applies, ⟨⟨19, k19, 8, by decide +kernel, rfl, rfl, _, rfl, rfl⟩, trivial⟩, w_rest, w_case⟩
end start1
theorem witness_1 : WitnessClaimed_1 := ⟨start1.p0, start1.e0, start1.about1, start1.theMethod, start1.args0, start1.below0, start1.atStart⟩
end Jvm.Pilot.@@N@@
