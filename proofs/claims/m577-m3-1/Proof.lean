import JvmDerived
import JvmDerived.Pilot.@@N@@Statement
import JvmDerived.Pilot.@@N@@Code
set_option linter.unusedVariables false
set_option linter.unusedSimpArgs false
namespace Jvm.Pilot.@@N@@
open Jvm Jvm.ClassFile Sem Op Lib Jvm.Free Jvm.Stand Jvm.LawKit Jvm.RoadKit Bundle Jvm.Pilot.@@N@@.Jvm.D
/-! own: the walk's goal, read backwards -/
def Go (tb : Tables) (e : Env) (below : List Frame) (F : State → Outcome → Prop) (A : State) : Prop := ∃ t o, Steps tb e below A t ∧ F t o
def Fin (below : List Frame) (s : State) (Q : Option Value → Heap → List Loc → Prop) (k n : Nat) (t : State) (o : Outcome) : Prop := t.status = .running ∧ Ended t below o ∧ ∃ v L, o = .returned v ∧ Q v t.heap L ∧ FrameEnd s o t L k n
theorem go {tb : Tables} {e : Env} {below : List Frame} {F : State → Outcome → Prop} {A B : State} (st : ∀ t, Steps tb e below B t → Steps tb e below A t) (h : Go tb e below F B) : Go tb e below F A := by
  obtain ⟨t, o, h1, h2⟩ := h
  exact ⟨t, o, st t h1, h2⟩
theorem go_in {p : Program} {e : Env} {below : List Frame} {s s₁ : State} {Q : Option Value → Heap → List Loc → Prop} {k n : Nat} {A : State} (h : ∀ F : State → Outcome → Prop, (∀ t o, Fin below s Q k n t o → F t o) → Go p.tables e below F A) :
    ∃ t o, Steps p.tables e below A t ∧ t.status = .running ∧ Ended t below o ∧ ∃ v L, o = .returned v ∧ Q v t.heap L ∧ FrameEnd s o t L k n := by
  obtain ⟨t, o, h1, h2, h3, h4⟩ := h (Fin below s Q k n) (fun _ _ h => h)
  exact ⟨t, o, h1, h2, h3, h4⟩
theorem own_fld {s : State} {args : Array Value} {t : Term} {C n d : String} {a : Addr} {k : Int32} (ev : t.eval args s none [] s = some (.ref a)) (h : (Cond.eq (.field t C n d) (.int k)).value args s none s [] = some true) : Fld s s.heap a C n d (.int k) := Fld.start ((fld_at ev).symm.trans (eqv_i (Term.int_eval k) h))
def NSt (h : Heap) (x : Addr) : Prop := ∃ c : Cell, h[x]? = some c ∧ c.vm.isStatics = false
theorem own_sta_keep {Z : State} {h h' : Heap} {C n d : String} {v : Value} {ws : List Addr} (F : Sta Z h C n d v) (K : Keep h h' ws) (q : ∀ x ∈ ws, NSt h x) : Sta Z h' C n d v := by
  obtain ⟨cf, i, k, f, st, cell, h1, h2, h3, h4, h5, h6, h7⟩ := F
  refine ⟨cf, i, k, f, st, cell, h1, h2, h3, h4, K.2.1 _ _ h5 (fun z => ?_), h6, h7⟩
  obtain ⟨c, g1, g2⟩ := q _ z
  cases h5.symm.trans g1
  rw [h6] at g2; cases g2
end Jvm.Pilot.@@N@@
namespace Jvm.RoadKit
theorem Exa.ns {Z : State} {h : Heap} {a : Addr} {C : String} (F : Exa Z h a C) : Jvm.Pilot.@@N@@.NSt h a := by
  obtain ⟨c, _, h1, -, -, h4, -⟩ := F; exact ⟨c, h1, h4⟩
theorem Arv.ns {Z : State} {h : Heap} {a : Addr} {k : ClassId} {ty : ClassFile.FieldType} {z : Int32} {vs : List Value} {dv : Value} (F : Arv Z h a k ty z vs dv) : Jvm.Pilot.@@N@@.NSt h a := by
  obtain ⟨c, A, -⟩ := F; exact ⟨c, A.1, A.plain⟩
end Jvm.RoadKit
namespace Jvm.Pilot.@@N@@
open Jvm Jvm.ClassFile Sem Op Lib Jvm.Free Jvm.Stand Jvm.LawKit Jvm.RoadKit Bundle Jvm.Pilot.@@N@@.Jvm.D
theorem own_no {Z : State} {aw : Array Value} {X Y : String} {t : List String} {n : Nat} (hwc : ∀ w ∈ Cond.chainWords (X :: t), w.before aw Z = true) (wi : (Cond.instantiable Y n).before aw Z = true) (hn : Y ∉ X :: t) : ∃ c t, Z.vm.findClass X = some c ∧ Z.vm.findClass Y = some t ∧ Z.vm.assignable c t = false := by
  obtain ⟨cy, ky, hy1, hy2, hy3, hy4, -⟩ := Cond.instantiable_spec wi
  obtain ⟨cx, k, hx, -⟩ := Cond.chain_head hwc
  exact ⟨cx, cy, hx, hy1, Vm.notAssignable_of_chain hx hy1 hy2 hy3 (Bool.or_eq_false_iff.mp hy4).1 hwc hn⟩
theorem own_selp {Z s : State} {aw args : Array Value} {y : MethodName} {n : Nat} (hZ : Z.Warmed39 s.vm) (wi : (Cond.instantiable y.cls n).before aw Z = true) (wp : (Cond.privateMethod y).before aw Z = true) (wm : (Cond.instanceMethod y).before aw Z = true) (hy : y.cls ≠ "java/lang/invoke/MethodHandle" ∧ y.cls ≠ "java/lang/invoke/VarHandle") : (Cond.selects y.cls y y).before args s = true := by
  obtain ⟨c, k, h1, h2, -, h4, -⟩ := Cond.instantiable_spec (mvT (args := args) hZ wi)
  exact selects_self_of_private h1 h2 (Bool.or_eq_false_iff.mp h4).1 (Cond.privateMethod_at (mvP hZ wp (args := args))) (mvT hZ wm) hy
section Ends
variable {p : Program} {l : Launch} {e : Env} {R : Room} {s : State} {m : MethodId} {args : Array Value} {below : List Frame} {meth : Method} {c : Code} {T : State} {locs : List Loc} {cells slots : Nat} {F : State → Outcome → Prop} {Q : Option Value → Heap → List Loc → Prop} {k n : Nat} {pc : Nat} {Ls : Array Slot} {rest : List Value} {h : Heap}
/-- the end of a walk: what is returned, what the heap says -/
theorem go_end (X : Stand p l e R s m args below meth c T locs cells slots) (hlk : meth.locks = false) (hF : ∀ t o, Fin below s Q k n t o → F t o) (eT : T.heap = h) (hk : cells ≤ k) (hn : slots ≤ n) {v : Option Value} (hv : meth.sig.returnType = none → v = none) (hQ : Q v h locs) {A : State}
    (hs : ∀ fs, (∀ (f : JFrame) (acts : List Action), f.method = m → f.locked = none → f.entered = [] → (doReturn e (T.setTop f) acts v).1 = T.setFrames fs) → Steps p.tables e below A (T.setFrames fs)) : Go p.tables e below F A := by
  obtain ⟨fs, hr, hrun, hended, hW, hsame⟩ := X.leave (v := v) hv hlk
  subst eT
  exact ⟨_, _, hs fs hr, hF _ _ ⟨hrun, hended, _, _, rfl, hQ, ⟨_, rfl⟩, hW, hsame.mono hk hn⟩⟩
theorem end_void (X : Stand p l e R s m args below meth c T locs cells slots) (hx : p.tables.exec = Jvm.exec) (hlk : meth.locks = false) (hret : meth.sig.returnType = none) (hd : decode c.code pc = .ok (.return_, 1)) (hF : ∀ t o, Fin below s Q k n t o → F t o) (eT : T.heap = h) (hk : cells ≤ k) (hn : slots ≤ n) (hQ : Q none h locs) : Go p.tables e below F (T.setTop (mkF m pc Ls [])) :=
  go_end X hlk hF eT hk hn (fun _ => rfl) hQ fun fs hr => X.returnOut hx hret hd hr
theorem end_nar {z : Int32} {t : FieldType} (X : Stand p l e R s m args below meth c T locs cells slots) (hx : p.tables.exec = Jvm.exec) (hlk : meth.locks = false) (hret : meth.sig.returnType = some t) (ht : t = .boolean ∨ t = .byte ∨ t = .char ∨ t = .short) (hd : decode c.code pc = .ok (.ireturn, 1)) (hF : ∀ t o, Fin below s Q k n t o → F t o) (eT : T.heap = h) (hk : cells ≤ k) (hn : slots ≤ n) (hQ : Q (some (.int (nar t z))) h locs) : Go p.tables e below F (T.setTop (mkF m pc Ls (.int z :: rest))) :=
  go_end X hlk hF eT hk hn (fun h => by rw [hret] at h; cases h) hQ fun fs hr => retN X hx hret ht hd hr
theorem end_int {z : Int32} (X : Stand p l e R s m args below meth c T locs cells slots) (hx : p.tables.exec = Jvm.exec) (hlk : meth.locks = false) (hret : meth.sig.returnType = some .int) (hd : decode c.code pc = .ok (.ireturn, 1)) (hF : ∀ t o, Fin below s Q k n t o → F t o) (eT : T.heap = h) (hk : cells ≤ k) (hn : slots ≤ n) (hQ : Q (some (.int z)) h locs) : Go p.tables e below F (T.setTop (mkF m pc Ls (.int z :: rest))) :=
  go_end X hlk hF eT hk hn (fun h => by rw [hret] at h; cases h) hQ fun fs hr => retOut X hx hret rfl (Or.inl ⟨rfl, Or.inl rfl, _, rfl⟩) hd hr
theorem end_long {z : Int64} (X : Stand p l e R s m args below meth c T locs cells slots) (hx : p.tables.exec = Jvm.exec) (hlk : meth.locks = false) (hret : meth.sig.returnType = some .long) (hd : decode c.code pc = .ok (.lreturn, 1)) (hF : ∀ t o, Fin below s Q k n t o → F t o) (eT : T.heap = h) (hk : cells ≤ k) (hn : slots ≤ n) (hQ : Q (some (.long z)) h locs) : Go p.tables e below F (T.setTop (mkF m pc Ls (.long z :: rest))) :=
  go_end X hlk hF eT hk hn (fun h => by rw [hret] at h; cases h) hQ fun fs hr => retOut X hx hret rfl (Or.inr (Or.inl ⟨rfl, rfl, _, rfl⟩)) hd hr
theorem end_ref {w : Value} {t : FieldType} (X : Stand p l e R s m args below meth c T locs cells slots) (hx : p.tables.exec = Jvm.exec) (hlk : meth.locks = false) (hret : meth.sig.returnType = some t) (ht : t.isReference = true) (hw : w.isRef = true) (hnr : narrow t w = w) (hd : decode c.code pc = .ok (.areturn, 1)) (hF : ∀ t o, Fin below s Q k n t o → F t o) (eT : T.heap = h) (hk : cells ≤ k) (hn : slots ≤ n) (hQ : Q (some w) h locs) : Go p.tables e below F (T.setTop (mkF m pc Ls (w :: rest))) :=
  go_end X hlk hF eT hk hn (fun h => by rw [hret] at h; cases h) hQ fun fs hr => retOut X hx hret hnr (Or.inr (Or.inr (Or.inr (Or.inr ⟨rfl, ht, hw⟩)))) hd hr
end Ends
theorem d1_0 : decode prog_3_method_1_code 0 = .ok (.aload_n 0, 1) := by decide +kernel
theorem d1_1 : decode prog_3_method_1_code 1 = .ok (.invokespecial 1, 3) := by decide +kernel
theorem d1_4 : decode prog_3_method_1_code 4 = .ok (.aload_n 0, 1) := by decide +kernel
theorem d1_5 : decode prog_3_method_1_code 5 = .ok (.iload_n 1, 1) := by decide +kernel
theorem d1_6 : decode prog_3_method_1_code 6 = .ok (.putfield 7, 3) := by decide +kernel
theorem d1_9 : decode prog_3_method_1_code 9 = .ok (.aload_n 0, 1) := by decide +kernel
theorem d1_10 : decode prog_3_method_1_code 10 = .ok (.iload_n 2, 1) := by decide +kernel
theorem d1_11 : decode prog_3_method_1_code 11 = .ok (.putfield 13, 3) := by decide +kernel
theorem d1_14 : decode prog_3_method_1_code 14 = .ok (.aload_n 0, 1) := by decide +kernel
theorem d1_15 : decode prog_3_method_1_code 15 = .ok (.iload_n 3, 1) := by decide +kernel
theorem d1_16 : decode prog_3_method_1_code 16 = .ok (.putfield 16, 3) := by decide +kernel
theorem d1_19 : decode prog_3_method_1_code 19 = .ok (.aload_n 0, 1) := by decide +kernel
theorem d1_20 : decode prog_3_method_1_code 20 = .ok (.iload 4, 2) := by decide +kernel
theorem d1_22 : decode prog_3_method_1_code 22 = .ok (.putfield 19, 3) := by decide +kernel
theorem d1_25 : decode prog_3_method_1_code 25 = .ok (.return_, 1) := by decide +kernel
theorem pn_1 : plainName "com/example/fenced_widget/fencedwidget/fence/Bounds" = true := by first | (simp [plainName, overriddenIn]; done) | decide +kernel
theorem ef_1 (m : MethodId) (a0 : Addr) (p1 : Int32) (p2 : Int32) (p3 : Int32) (p4 : Int32) : entryFrame m #[(.ref a0), (.int p1), (.int p2), (.int p3), (.int p4)] 5 = mkF m 0 #[.val (.ref a0), .val (.int p1), .val (.int p2), .val (.int p3), .val (.int p4)] [] := by first | (simp [entryFrame, mkF, argsToLocals, Value.category]; done) | rfl
abbrev room1 : Room := { frames := 1, cells := 0, slots := 0, locals := 12 }
def Q1 (Z : State) (a0 : Addr) (p1 : Int32) (p2 : Int32) (p3 : Int32) (p4 : Int32) (h0 : Heap) (n0 : Nat) (v : Option Value) (h : Heap) (L : List Loc) : Prop := v = none ∧ Fr n0 L ∧ Keep h0 h [a0] ∧ Exa Z h a0 "com/example/fenced_widget/fencedwidget/fence/Bounds" ∧ Fld Z h a0 "com/example/fenced_widget/fencedwidget/fence/Bounds" "x" "I" (.int p1) ∧ Fld Z h a0 "com/example/fenced_widget/fencedwidget/fence/Bounds" "y" "I" (.int p2) ∧ Fld Z h a0 "com/example/fenced_widget/fencedwidget/fence/Bounds" "width" "I" (.int p3) ∧ Fld Z h a0 "com/example/fenced_widget/fencedwidget/fence/Bounds" "height" "I" (.int p4)
set_option maxRecDepth 65536 in
set_option maxHeartbeats 40000000 in
theorem rm1 (l : Launch) (Z : State) (aw : Array Value) (hw : ∀ d ∈ tables_1, d.before aw Z = true) (ws : List Jvm.Cond) (a0 : Addr) (p1 : Int32) (p2 : Int32) (p3 : Int32) (p4 : Int32) (h0 : Heap) (n0 : Nat) (Z0 : n0 ≤ h0.size) (F_x_a0 : Fld Z h0 a0 "com/example/fenced_widget/fencedwidget/fence/Bounds" "x" "I" (.int (0 : Int32))) (F_y_a0 : Fld Z h0 a0 "com/example/fenced_widget/fencedwidget/fence/Bounds" "y" "I" (.int (0 : Int32))) (F_width_a0 : Fld Z h0 a0 "com/example/fenced_widget/fencedwidget/fence/Bounds" "width" "I" (.int (0 : Int32))) (F_height_a0 : Fld Z h0 a0 "com/example/fenced_widget/fencedwidget/fence/Bounds" "height" "I" (.int (0 : Int32))) (E_a0 : Exa Z h0 a0 "com/example/fenced_widget/fencedwidget/fence/Bounds") (g_a0 : n0 ≤ a0) :
    MetFree l (⟨"com/example/fenced_widget/fencedwidget/fence/Bounds", "<init>", "(IIII)V"⟩ : MethodName) (head1 (Jvm.Cond.code (⟨"com/example/fenced_widget/fencedwidget/fence/Bounds", "<init>", "(IIII)V"⟩ : MethodName) prog_3_method_1_code 5 none :: ws) room1) (fun a U => a = #[(.ref a0), (.int p1), (.int p2), (.int p3), (.int p4)] ∧ Z.Warmed39 U.vm ∧ U.heap = h0) (fun _ _ _ _ _ => True) (fun _ U o U' => ∃ v L, o = .returned v ∧ Q1 Z a0 p1 p2 p3 p4 h0 n0 v U'.heap L ∧ FrameEnd U o U' L room1.cells room1.slots) := by
  refine MetFree.of_bodySF (plainFor_of_name pn_1) hisR ?_
  intro p e s m args below meth c s₁ Bd hml0 hP hK
  obtain ⟨rfl, hZ, hh⟩ := hP
  have hx := Bd.exec
  have hby := Bd.bytes
  have hml : c.maxLocals = 5 := hml0
  have hown : s.vm.findClass "com/example/fenced_widget/fencedwidget/fence/Bounds" = some m.cls := findClass_of_methodNamed Bd.named
  have hnm := (name_of_methodNamed Bd.named Bd.method).1
  have X0 : Stand p l e room1 s m #[(.ref a0), (.int p1), (.int p2), (.int p3), (.int p4)] below meth c s₁ [] 0 0 := Stand.of_body Bd
  have e0 : s₁.heap = h0 := by rw [← hh, Bd.state]; rfl
  have N0 := Fr.nil n0
  have K0 := Keep.refl h0 [a0]
  rw [ef_1 m a0 p1 p2 p3 p4]
  refine go_in (s₁ := s₁) (Q := Q1 Z a0 p1 p2 p3 p4 h0 n0) fun F hF => ?_
  refine go (B := s₁.setTop (mkF m 1 #[.val (.ref a0), .val (.int p1), .val (.int p2), .val (.int p3), .val (.int p4)] [(.ref a0)])) (fun _ k => XS.aloadN X0.here hx rfl (hb hby d1_0) rfl rfl k) ?_
  obtain ⟨T1, X1, e1, st1⟩ := initO X0 hx hZ hown (hw _ (List.mem_of_getElem? (i := 6) rfl)) (hw _ (List.mem_of_getElem? (i := 7) rfl)) (hw _ (List.mem_of_getElem? (i := 8) rfl)) e0 (g := (mkF m 1 #[.val (.ref a0), .val (.int p1), .val (.int p2), .val (.int p3), .val (.int p4)] [(.ref a0)])) rfl (by rw [hml]; rfl) rfl (hb hby d1_1) (by decide) (W := 0) (by show 2 * 0 + _ ≤ _; exact Nat.le_of_eq rfl) (by decide)
  refine go (B := T1.setTop (mkF m 4 #[.val (.ref a0), .val (.int p1), .val (.int p2), .val (.int p3), .val (.int p4)] [])) st1 ?_
  refine go (B := T1.setTop (mkF m 5 #[.val (.ref a0), .val (.int p1), .val (.int p2), .val (.int p3), .val (.int p4)] [(.ref a0)])) (fun _ k => XS.aloadN X1.here hx rfl (hb hby d1_4) rfl rfl k) ?_
  refine go (B := T1.setTop (mkF m 6 #[.val (.ref a0), .val (.int p1), .val (.int p2), .val (.int p3), .val (.int p4)] [(.int p1), (.ref a0)])) (fun _ k => XS.iloadN X1.here hx rfl (hb hby d1_5) rfl k) ?_
  obtain ⟨T2, h2, X2, e2, W2, st2⟩ := putF X1 hx hZ hown (host := "") (Or.inl (hw _ (List.mem_of_getElem? (i := 9) rfl))) Via.refl e1 F_x_a0 E_a0 (Or.inr ⟨(hw _ (List.mem_of_getElem? (i := 10) rfl)), rfl, hnm⟩) (hw _ (List.mem_of_getElem? (i := 1) rfl)) (ty := .int) (by decide) rfl rfl (g := (mkF m 6 #[.val (.ref a0), .val (.int p1), .val (.int p2), .val (.int p3), .val (.int p4)] [(.int p1), (.ref a0)])) rfl rfl (hb hby d1_6)
  have F_y_a0_2 := Fld.other W2 F_y_a0 (Or.inr (slot_ne (Or.inr (hw _ (List.mem_of_getElem? (i := 12) rfl))) (Or.inr (hw _ (List.mem_of_getElem? (i := 10) rfl))) (by decide) (t := .int) (t' := .int) (by decide) (by decide)))
  have F_width_a0_2 := Fld.other W2 F_width_a0 (Or.inr (slot_ne (Or.inr (hw _ (List.mem_of_getElem? (i := 14) rfl))) (Or.inr (hw _ (List.mem_of_getElem? (i := 10) rfl))) (by decide) (t := .int) (t' := .int) (by decide) (by decide)))
  have F_height_a0_2 := Fld.other W2 F_height_a0 (Or.inr (slot_ne (Or.inr (hw _ (List.mem_of_getElem? (i := 16) rfl))) (Or.inr (hw _ (List.mem_of_getElem? (i := 10) rfl))) (by decide) (t := .int) (t' := .int) (by decide) (by decide)))
  have E_a0_2 := E_a0.wr W2
  have F_x_a0_2 := Fld.same W2 F_x_a0
  have Z2 := Nat.le_trans Z0 (Keep.of_wr W2).1
  have K2 := K0.wr W2 (Or.inl (List.mem_of_getElem? (i := 0) rfl))
  have N2 := Fr.snoc X2 N0 g_a0
  refine go (B := T2.setTop (mkF m 9 #[.val (.ref a0), .val (.int p1), .val (.int p2), .val (.int p3), .val (.int p4)] [])) st2 ?_
  refine go (B := T2.setTop (mkF m 10 #[.val (.ref a0), .val (.int p1), .val (.int p2), .val (.int p3), .val (.int p4)] [(.ref a0)])) (fun _ k => XS.aloadN X2.here hx rfl (hb hby d1_9) rfl rfl k) ?_
  refine go (B := T2.setTop (mkF m 11 #[.val (.ref a0), .val (.int p1), .val (.int p2), .val (.int p3), .val (.int p4)] [(.int p2), (.ref a0)])) (fun _ k => XS.iloadN X2.here hx rfl (hb hby d1_10) rfl k) ?_
  obtain ⟨T3, h3, X3, e3, W3, st3⟩ := putF X2 hx hZ hown (host := "") (Or.inl (hw _ (List.mem_of_getElem? (i := 11) rfl))) Via.refl e2 F_y_a0_2 E_a0_2 (Or.inr ⟨(hw _ (List.mem_of_getElem? (i := 12) rfl)), rfl, hnm⟩) (hw _ (List.mem_of_getElem? (i := 1) rfl)) (ty := .int) (by decide) rfl rfl (g := (mkF m 11 #[.val (.ref a0), .val (.int p1), .val (.int p2), .val (.int p3), .val (.int p4)] [(.int p2), (.ref a0)])) rfl rfl (hb hby d1_11)
  have F_width_a0_3 := Fld.other W3 F_width_a0_2 (Or.inr (slot_ne (Or.inr (hw _ (List.mem_of_getElem? (i := 14) rfl))) (Or.inr (hw _ (List.mem_of_getElem? (i := 12) rfl))) (by decide) (t := .int) (t' := .int) (by decide) (by decide)))
  have F_height_a0_3 := Fld.other W3 F_height_a0_2 (Or.inr (slot_ne (Or.inr (hw _ (List.mem_of_getElem? (i := 16) rfl))) (Or.inr (hw _ (List.mem_of_getElem? (i := 12) rfl))) (by decide) (t := .int) (t' := .int) (by decide) (by decide)))
  have E_a0_3 := E_a0_2.wr W3
  have F_x_a0_3 := Fld.other W3 F_x_a0_2 (Or.inr (slot_ne (Or.inr (hw _ (List.mem_of_getElem? (i := 10) rfl))) (Or.inr (hw _ (List.mem_of_getElem? (i := 12) rfl))) (by decide) (t := .int) (t' := .int) (by decide) (by decide)))
  have F_y_a0_3 := Fld.same W3 F_y_a0_2
  have Z3 := Nat.le_trans Z2 (Keep.of_wr W3).1
  have K3 := K2.wr W3 (Or.inl (List.mem_of_getElem? (i := 0) rfl))
  have N3 := Fr.snoc X3 N2 g_a0
  refine go (B := T3.setTop (mkF m 14 #[.val (.ref a0), .val (.int p1), .val (.int p2), .val (.int p3), .val (.int p4)] [])) st3 ?_
  refine go (B := T3.setTop (mkF m 15 #[.val (.ref a0), .val (.int p1), .val (.int p2), .val (.int p3), .val (.int p4)] [(.ref a0)])) (fun _ k => XS.aloadN X3.here hx rfl (hb hby d1_14) rfl rfl k) ?_
  refine go (B := T3.setTop (mkF m 16 #[.val (.ref a0), .val (.int p1), .val (.int p2), .val (.int p3), .val (.int p4)] [(.int p3), (.ref a0)])) (fun _ k => XS.iloadN X3.here hx rfl (hb hby d1_15) rfl k) ?_
  obtain ⟨T4, h4, X4, e4, W4, st4⟩ := putF X3 hx hZ hown (host := "") (Or.inl (hw _ (List.mem_of_getElem? (i := 13) rfl))) Via.refl e3 F_width_a0_3 E_a0_3 (Or.inr ⟨(hw _ (List.mem_of_getElem? (i := 14) rfl)), rfl, hnm⟩) (hw _ (List.mem_of_getElem? (i := 1) rfl)) (ty := .int) (by decide) rfl rfl (g := (mkF m 16 #[.val (.ref a0), .val (.int p1), .val (.int p2), .val (.int p3), .val (.int p4)] [(.int p3), (.ref a0)])) rfl rfl (hb hby d1_16)
  have F_height_a0_4 := Fld.other W4 F_height_a0_3 (Or.inr (slot_ne (Or.inr (hw _ (List.mem_of_getElem? (i := 16) rfl))) (Or.inr (hw _ (List.mem_of_getElem? (i := 14) rfl))) (by decide) (t := .int) (t' := .int) (by decide) (by decide)))
  have E_a0_4 := E_a0_3.wr W4
  have F_x_a0_4 := Fld.other W4 F_x_a0_3 (Or.inr (slot_ne (Or.inr (hw _ (List.mem_of_getElem? (i := 10) rfl))) (Or.inr (hw _ (List.mem_of_getElem? (i := 14) rfl))) (by decide) (t := .int) (t' := .int) (by decide) (by decide)))
  have F_y_a0_4 := Fld.other W4 F_y_a0_3 (Or.inr (slot_ne (Or.inr (hw _ (List.mem_of_getElem? (i := 12) rfl))) (Or.inr (hw _ (List.mem_of_getElem? (i := 14) rfl))) (by decide) (t := .int) (t' := .int) (by decide) (by decide)))
  have F_width_a0_4 := Fld.same W4 F_width_a0_3
  have Z4 := Nat.le_trans Z3 (Keep.of_wr W4).1
  have K4 := K3.wr W4 (Or.inl (List.mem_of_getElem? (i := 0) rfl))
  have N4 := Fr.snoc X4 N3 g_a0
  refine go (B := T4.setTop (mkF m 19 #[.val (.ref a0), .val (.int p1), .val (.int p2), .val (.int p3), .val (.int p4)] [])) st4 ?_
  refine go (B := T4.setTop (mkF m 20 #[.val (.ref a0), .val (.int p1), .val (.int p2), .val (.int p3), .val (.int p4)] [(.ref a0)])) (fun _ k => XS.aloadN X4.here hx rfl (hb hby d1_19) rfl rfl k) ?_
  refine go (B := T4.setTop (mkF m 22 #[.val (.ref a0), .val (.int p1), .val (.int p2), .val (.int p3), .val (.int p4)] [(.int p4), (.ref a0)])) (fun _ k => XS.iload X4.here hx rfl (hb hby d1_20) rfl k) ?_
  obtain ⟨T5, h5, X5, e5, W5, st5⟩ := putF X4 hx hZ hown (host := "") (Or.inl (hw _ (List.mem_of_getElem? (i := 15) rfl))) Via.refl e4 F_height_a0_4 E_a0_4 (Or.inr ⟨(hw _ (List.mem_of_getElem? (i := 16) rfl)), rfl, hnm⟩) (hw _ (List.mem_of_getElem? (i := 1) rfl)) (ty := .int) (by decide) rfl rfl (g := (mkF m 22 #[.val (.ref a0), .val (.int p1), .val (.int p2), .val (.int p3), .val (.int p4)] [(.int p4), (.ref a0)])) rfl rfl (hb hby d1_22)
  have E_a0_5 := E_a0_4.wr W5
  have F_x_a0_5 := Fld.other W5 F_x_a0_4 (Or.inr (slot_ne (Or.inr (hw _ (List.mem_of_getElem? (i := 10) rfl))) (Or.inr (hw _ (List.mem_of_getElem? (i := 16) rfl))) (by decide) (t := .int) (t' := .int) (by decide) (by decide)))
  have F_y_a0_5 := Fld.other W5 F_y_a0_4 (Or.inr (slot_ne (Or.inr (hw _ (List.mem_of_getElem? (i := 12) rfl))) (Or.inr (hw _ (List.mem_of_getElem? (i := 16) rfl))) (by decide) (t := .int) (t' := .int) (by decide) (by decide)))
  have F_width_a0_5 := Fld.other W5 F_width_a0_4 (Or.inr (slot_ne (Or.inr (hw _ (List.mem_of_getElem? (i := 14) rfl))) (Or.inr (hw _ (List.mem_of_getElem? (i := 16) rfl))) (by decide) (t := .int) (t' := .int) (by decide) (by decide)))
  have F_height_a0_5 := Fld.same W5 F_height_a0_4
  have Z5 := Nat.le_trans Z4 (Keep.of_wr W5).1
  have K5 := K4.wr W5 (Or.inl (List.mem_of_getElem? (i := 0) rfl))
  have N5 := Fr.snoc X5 N4 g_a0
  refine go (B := T5.setTop (mkF m 25 #[.val (.ref a0), .val (.int p1), .val (.int p2), .val (.int p3), .val (.int p4)] [])) st5 ?_
  exact end_void X5 hx Bd.notSynchronized Bd.returns (hb hby d1_25) hF e5 (by decide) (by decide) ⟨rfl, N5, K5, E_a0_5, F_x_a0_5, F_y_a0_5, F_width_a0_5, F_height_a0_5⟩
theorem d3_0 : decode prog_3_method_2_code 0 = .ok (.iload_n 1, 1) := by decide +kernel
theorem d3_1 : decode prog_3_method_2_code 1 = .ok (.aload_n 0, 1) := by decide +kernel
theorem d3_2 : decode prog_3_method_2_code 2 = .ok (.getfield 7, 3) := by decide +kernel
theorem d3_5 : decode prog_3_method_2_code 5 = .ok (.if_icmp .lt 49, 3) := by decide +kernel
theorem d3_8 : decode prog_3_method_2_code 8 = .ok (.iload_n 1, 1) := by decide +kernel
theorem d3_9 : decode prog_3_method_2_code 9 = .ok (.i2l, 1) := by decide +kernel
theorem d3_10 : decode prog_3_method_2_code 10 = .ok (.aload_n 0, 1) := by decide +kernel
theorem d3_11 : decode prog_3_method_2_code 11 = .ok (.getfield 7, 3) := by decide +kernel
theorem d3_14 : decode prog_3_method_2_code 14 = .ok (.i2l, 1) := by decide +kernel
theorem d3_15 : decode prog_3_method_2_code 15 = .ok (.lsub, 1) := by decide +kernel
theorem d3_16 : decode prog_3_method_2_code 16 = .ok (.aload_n 0, 1) := by decide +kernel
theorem d3_17 : decode prog_3_method_2_code 17 = .ok (.getfield 16, 3) := by decide +kernel
theorem d3_20 : decode prog_3_method_2_code 20 = .ok (.i2l, 1) := by decide +kernel
theorem d3_21 : decode prog_3_method_2_code 21 = .ok (.lcmp, 1) := by decide +kernel
theorem d3_22 : decode prog_3_method_2_code 22 = .ok (.ifCond .ge 32, 3) := by decide +kernel
theorem d3_25 : decode prog_3_method_2_code 25 = .ok (.iload_n 2, 1) := by decide +kernel
theorem d3_26 : decode prog_3_method_2_code 26 = .ok (.aload_n 0, 1) := by decide +kernel
theorem d3_27 : decode prog_3_method_2_code 27 = .ok (.getfield 13, 3) := by decide +kernel
theorem d3_30 : decode prog_3_method_2_code 30 = .ok (.if_icmp .lt 24, 3) := by decide +kernel
theorem d3_33 : decode prog_3_method_2_code 33 = .ok (.iload_n 2, 1) := by decide +kernel
theorem d3_34 : decode prog_3_method_2_code 34 = .ok (.i2l, 1) := by decide +kernel
theorem d3_35 : decode prog_3_method_2_code 35 = .ok (.aload_n 0, 1) := by decide +kernel
theorem d3_36 : decode prog_3_method_2_code 36 = .ok (.getfield 13, 3) := by decide +kernel
theorem d3_39 : decode prog_3_method_2_code 39 = .ok (.i2l, 1) := by decide +kernel
theorem d3_40 : decode prog_3_method_2_code 40 = .ok (.lsub, 1) := by decide +kernel
theorem d3_41 : decode prog_3_method_2_code 41 = .ok (.aload_n 0, 1) := by decide +kernel
theorem d3_42 : decode prog_3_method_2_code 42 = .ok (.getfield 19, 3) := by decide +kernel
theorem d3_45 : decode prog_3_method_2_code 45 = .ok (.i2l, 1) := by decide +kernel
theorem d3_46 : decode prog_3_method_2_code 46 = .ok (.lcmp, 1) := by decide +kernel
theorem d3_47 : decode prog_3_method_2_code 47 = .ok (.ifCond .ge 7, 3) := by decide +kernel
theorem d3_50 : decode prog_3_method_2_code 50 = .ok (.iconst 1, 1) := by decide +kernel
theorem d3_51 : decode prog_3_method_2_code 51 = .ok (.goto 4, 3) := by decide +kernel
theorem d3_54 : decode prog_3_method_2_code 54 = .ok (.iconst 0, 1) := by decide +kernel
theorem d3_55 : decode prog_3_method_2_code 55 = .ok (.ireturn, 1) := by decide +kernel
theorem ef_3 (m : MethodId) (a0 : Addr) (p1 : Int32) (p2 : Int32) : entryFrame m #[(.ref a0), (.int p1), (.int p2)] 3 = mkF m 0 #[.val (.ref a0), .val (.int p1), .val (.int p2)] [] := by first | (simp [entryFrame, mkF, argsToLocals, Value.category]; done) | rfl
def f3 (p1 : Int32) (p2 : Int32) (w_x_a0 : Int32) (w_width_a0 : Int32) (w_y_a0 : Int32) (w_height_a0 : Int32) : Int32 := if p1 < w_x_a0 then (0 : Int32) else if (lcmpW ((p1.toInt64) - (w_x_a0.toInt64)) (w_width_a0.toInt64)) < (0 : Int32) then if p2 < w_y_a0 then (0 : Int32) else if (lcmpW ((p2.toInt64) - (w_y_a0.toInt64)) (w_height_a0.toInt64)) < (0 : Int32) then (1 : Int32) else (0 : Int32) else (0 : Int32)
abbrev room3 : Room := { frames := 0, cells := 0, slots := 0, locals := 0 }
def Q3 (Z : State) (a0 : Addr) (p1 : Int32) (p2 : Int32) (w_x_a0 : Int32) (w_width_a0 : Int32) (w_y_a0 : Int32) (w_height_a0 : Int32) (h0 : Heap) (n0 : Nat) (v : Option Value) (h : Heap) (L : List Loc) : Prop := v = some (.int (f3 p1 p2 w_x_a0 w_width_a0 w_y_a0 w_height_a0)) ∧ L = [] ∧ h = h0
set_option maxRecDepth 65536 in
set_option maxHeartbeats 40000000 in
theorem rm3 (l : Launch) (Z : State) (aw : Array Value) (hw : ∀ d ∈ tables_1, d.before aw Z = true) (ws : List Jvm.Cond) (a0 : Addr) (p1 : Int32) (p2 : Int32) (w_x_a0 : Int32) (w_width_a0 : Int32) (w_y_a0 : Int32) (w_height_a0 : Int32) (h0 : Heap) (n0 : Nat) (Z0 : n0 ≤ h0.size) (F_x_a0 : Fld Z h0 a0 "com/example/fenced_widget/fencedwidget/fence/Bounds" "x" "I" (.int w_x_a0)) (F_width_a0 : Fld Z h0 a0 "com/example/fenced_widget/fencedwidget/fence/Bounds" "width" "I" (.int w_width_a0)) (F_y_a0 : Fld Z h0 a0 "com/example/fenced_widget/fencedwidget/fence/Bounds" "y" "I" (.int w_y_a0)) (F_height_a0 : Fld Z h0 a0 "com/example/fenced_widget/fencedwidget/fence/Bounds" "height" "I" (.int w_height_a0)) :
    MetFree l (⟨"com/example/fenced_widget/fencedwidget/fence/Bounds", "contains", "(II)Z"⟩ : MethodName) (head1 (Jvm.Cond.code (⟨"com/example/fenced_widget/fencedwidget/fence/Bounds", "contains", "(II)Z"⟩ : MethodName) prog_3_method_2_code 3 (some .boolean) :: ws) room3) (fun a U => a = #[(.ref a0), (.int p1), (.int p2)] ∧ Z.Warmed39 U.vm ∧ U.heap = h0) (fun _ _ _ _ _ => True) (fun _ U o U' => ∃ v L, o = .returned v ∧ Q3 Z a0 p1 p2 w_x_a0 w_width_a0 w_y_a0 w_height_a0 h0 n0 v U'.heap L ∧ FrameEnd U o U' L room3.cells room3.slots) := by
  refine MetFree.of_bodySF (plainFor_of_name pn_1) hisR ?_
  intro p e s m args below meth c s₁ Bd hml0 hP hK
  obtain ⟨rfl, hZ, hh⟩ := hP
  have hx := Bd.exec
  have hby := Bd.bytes
  have hml : c.maxLocals = 3 := hml0
  have hown : s.vm.findClass "com/example/fenced_widget/fencedwidget/fence/Bounds" = some m.cls := findClass_of_methodNamed Bd.named
  have hnm := (name_of_methodNamed Bd.named Bd.method).1
  have X0 : Stand p l e room3 s m #[(.ref a0), (.int p1), (.int p2)] below meth c s₁ [] 0 0 := Stand.of_body Bd
  have e0 : s₁.heap = h0 := by rw [← hh, Bd.state]; rfl
  have N0 := Fr.nil n0
  rw [ef_3 m a0 p1 p2]
  refine go_in (s₁ := s₁) (Q := Q3 Z a0 p1 p2 w_x_a0 w_width_a0 w_y_a0 w_height_a0 h0 n0) fun F hF => ?_
  refine go (B := s₁.setTop (mkF m 1 #[.val (.ref a0), .val (.int p1), .val (.int p2)] [(.int p1)])) (fun _ k => XS.iloadN X0.here hx rfl (hb hby d3_0) rfl k) ?_
  refine go (B := s₁.setTop (mkF m 2 #[.val (.ref a0), .val (.int p1), .val (.int p2)] [(.ref a0), (.int p1)])) (fun _ k => XS.aloadN X0.here hx rfl (hb hby d3_1) rfl rfl k) ?_
  obtain ⟨T1, X1, e1, st1⟩ := getF X0 hx hZ hown (host := "") (Or.inl (hw _ (List.mem_of_getElem? (i := 9) rfl))) Via.refl e0 F_x_a0 (g := (mkF m 2 #[.val (.ref a0), .val (.int p1), .val (.int p2)] [(.ref a0), (.int p1)])) rfl rfl (hb hby d3_2)
  refine go (B := T1.setTop (mkF m 5 #[.val (.ref a0), .val (.int p1), .val (.int p2)] [(.int w_x_a0), (.int p1)])) st1 ?_
  by_cases hc2 : p1 < w_x_a0
  · refine go (B := T1.setTop (mkF m 54 #[.val (.ref a0), .val (.int p1), .val (.int p2)] [])) (fun _ k => XS.icmpYes X1.here hx rfl (pc0 := 5) (pc' := 54) rfl (hb hby d3_5) rfl (tlt hc2).1 (by decide) (by decide) k) ?_
    refine go (B := T1.setTop (mkF m 55 #[.val (.ref a0), .val (.int p1), .val (.int p2)] [(.int (0 : Int32))])) (fun _ k => XS.iconst X1.here hx rfl (hb hby d3_54) k) ?_
    have r3 : (f3 p1 p2 w_x_a0 w_width_a0 w_y_a0 w_height_a0) = (0 : Int32) := by unfold f3; rw [if_pos hc2]
    exact end_nar X1 hx Bd.notSynchronized (t := .boolean) Bd.returns (by simp) (hb hby d3_55) hF e1 (by decide) (by decide) ⟨(congrArg (fun z => some (Value.int z)) r3.symm), rfl, rfl⟩
  · refine go (B := T1.setTop (mkF m 8 #[.val (.ref a0), .val (.int p1), .val (.int p2)] [])) (fun _ k => XS.icmpNo X1.here hx rfl (hb hby d3_5) rfl (flt hc2).1 k) ?_
    refine go (B := T1.setTop (mkF m 9 #[.val (.ref a0), .val (.int p1), .val (.int p2)] [(.int p1)])) (fun _ k => XS.iloadN X1.here hx rfl (hb hby d3_8) rfl k) ?_
    refine go (B := T1.setTop (mkF m 10 #[.val (.ref a0), .val (.int p1), .val (.int p2)] [(.long (p1.toInt64))])) (fun _ k => XS.i2l X1.here hx rfl (hb hby d3_9) rfl k) ?_
    refine go (B := T1.setTop (mkF m 11 #[.val (.ref a0), .val (.int p1), .val (.int p2)] [(.ref a0), (.long (p1.toInt64))])) (fun _ k => XS.aloadN X1.here hx rfl (hb hby d3_10) rfl rfl k) ?_
    obtain ⟨T4, X4, e4, st4⟩ := getF X1 hx hZ hown (host := "") (Or.inl (hw _ (List.mem_of_getElem? (i := 9) rfl))) Via.refl e1 F_x_a0 (g := (mkF m 11 #[.val (.ref a0), .val (.int p1), .val (.int p2)] [(.ref a0), (.long (p1.toInt64))])) rfl rfl (hb hby d3_11)
    refine go (B := T4.setTop (mkF m 14 #[.val (.ref a0), .val (.int p1), .val (.int p2)] [(.int w_x_a0), (.long (p1.toInt64))])) st4 ?_
    refine go (B := T4.setTop (mkF m 15 #[.val (.ref a0), .val (.int p1), .val (.int p2)] [(.long (w_x_a0.toInt64)), (.long (p1.toInt64))])) (fun _ k => XS.i2l X4.here hx rfl (hb hby d3_14) rfl k) ?_
    refine go (B := T4.setTop (mkF m 16 #[.val (.ref a0), .val (.int p1), .val (.int p2)] [(.long ((p1.toInt64) - (w_x_a0.toInt64)))])) (fun _ k => XS.lsub X4.here hx rfl (hb hby d3_15) rfl k) ?_
    refine go (B := T4.setTop (mkF m 17 #[.val (.ref a0), .val (.int p1), .val (.int p2)] [(.ref a0), (.long ((p1.toInt64) - (w_x_a0.toInt64)))])) (fun _ k => XS.aloadN X4.here hx rfl (hb hby d3_16) rfl rfl k) ?_
    obtain ⟨T5, X5, e5, st5⟩ := getF X4 hx hZ hown (host := "") (Or.inl (hw _ (List.mem_of_getElem? (i := 13) rfl))) Via.refl e4 F_width_a0 (g := (mkF m 17 #[.val (.ref a0), .val (.int p1), .val (.int p2)] [(.ref a0), (.long ((p1.toInt64) - (w_x_a0.toInt64)))])) rfl rfl (hb hby d3_17)
    refine go (B := T5.setTop (mkF m 20 #[.val (.ref a0), .val (.int p1), .val (.int p2)] [(.int w_width_a0), (.long ((p1.toInt64) - (w_x_a0.toInt64)))])) st5 ?_
    refine go (B := T5.setTop (mkF m 21 #[.val (.ref a0), .val (.int p1), .val (.int p2)] [(.long (w_width_a0.toInt64)), (.long ((p1.toInt64) - (w_x_a0.toInt64)))])) (fun _ k => XS.i2l X5.here hx rfl (hb hby d3_20) rfl k) ?_
    refine go (B := T5.setTop (mkF m 22 #[.val (.ref a0), .val (.int p1), .val (.int p2)] [(.int (lcmpW ((p1.toInt64) - (w_x_a0.toInt64)) (w_width_a0.toInt64)))])) (fun _ k => XS.lcmp X5.here hx rfl (hb hby d3_21) rfl k) ?_
    by_cases hc6 : (lcmpW ((p1.toInt64) - (w_x_a0.toInt64)) (w_width_a0.toInt64)) < (0 : Int32)
    · refine go (B := T5.setTop (mkF m 25 #[.val (.ref a0), .val (.int p1), .val (.int p2)] [])) (fun _ k => XS.ifNo X5.here hx rfl (hb hby d3_22) rfl ((if0 _ _).trans (tlt hc6).2.1) k) ?_
      refine go (B := T5.setTop (mkF m 26 #[.val (.ref a0), .val (.int p1), .val (.int p2)] [(.int p2)])) (fun _ k => XS.iloadN X5.here hx rfl (hb hby d3_25) rfl k) ?_
      refine go (B := T5.setTop (mkF m 27 #[.val (.ref a0), .val (.int p1), .val (.int p2)] [(.ref a0), (.int p2)])) (fun _ k => XS.aloadN X5.here hx rfl (hb hby d3_26) rfl rfl k) ?_
      obtain ⟨T7, X7, e7, st7⟩ := getF X5 hx hZ hown (host := "") (Or.inl (hw _ (List.mem_of_getElem? (i := 11) rfl))) Via.refl e5 F_y_a0 (g := (mkF m 27 #[.val (.ref a0), .val (.int p1), .val (.int p2)] [(.ref a0), (.int p2)])) rfl rfl (hb hby d3_27)
      refine go (B := T7.setTop (mkF m 30 #[.val (.ref a0), .val (.int p1), .val (.int p2)] [(.int w_y_a0), (.int p2)])) st7 ?_
      by_cases hc8 : p2 < w_y_a0
      · refine go (B := T7.setTop (mkF m 54 #[.val (.ref a0), .val (.int p1), .val (.int p2)] [])) (fun _ k => XS.icmpYes X7.here hx rfl (pc0 := 30) (pc' := 54) rfl (hb hby d3_30) rfl (tlt hc8).1 (by decide) (by decide) k) ?_
        refine go (B := T7.setTop (mkF m 55 #[.val (.ref a0), .val (.int p1), .val (.int p2)] [(.int (0 : Int32))])) (fun _ k => XS.iconst X7.here hx rfl (hb hby d3_54) k) ?_
        have r9 : (f3 p1 p2 w_x_a0 w_width_a0 w_y_a0 w_height_a0) = (0 : Int32) := by unfold f3; rw [if_neg hc2, if_pos hc6, if_pos hc8]
        exact end_nar X7 hx Bd.notSynchronized (t := .boolean) Bd.returns (by simp) (hb hby d3_55) hF e7 (by decide) (by decide) ⟨(congrArg (fun z => some (Value.int z)) r9.symm), rfl, rfl⟩
      · refine go (B := T7.setTop (mkF m 33 #[.val (.ref a0), .val (.int p1), .val (.int p2)] [])) (fun _ k => XS.icmpNo X7.here hx rfl (hb hby d3_30) rfl (flt hc8).1 k) ?_
        refine go (B := T7.setTop (mkF m 34 #[.val (.ref a0), .val (.int p1), .val (.int p2)] [(.int p2)])) (fun _ k => XS.iloadN X7.here hx rfl (hb hby d3_33) rfl k) ?_
        refine go (B := T7.setTop (mkF m 35 #[.val (.ref a0), .val (.int p1), .val (.int p2)] [(.long (p2.toInt64))])) (fun _ k => XS.i2l X7.here hx rfl (hb hby d3_34) rfl k) ?_
        refine go (B := T7.setTop (mkF m 36 #[.val (.ref a0), .val (.int p1), .val (.int p2)] [(.ref a0), (.long (p2.toInt64))])) (fun _ k => XS.aloadN X7.here hx rfl (hb hby d3_35) rfl rfl k) ?_
        obtain ⟨T10, X10, e10, st10⟩ := getF X7 hx hZ hown (host := "") (Or.inl (hw _ (List.mem_of_getElem? (i := 11) rfl))) Via.refl e7 F_y_a0 (g := (mkF m 36 #[.val (.ref a0), .val (.int p1), .val (.int p2)] [(.ref a0), (.long (p2.toInt64))])) rfl rfl (hb hby d3_36)
        refine go (B := T10.setTop (mkF m 39 #[.val (.ref a0), .val (.int p1), .val (.int p2)] [(.int w_y_a0), (.long (p2.toInt64))])) st10 ?_
        refine go (B := T10.setTop (mkF m 40 #[.val (.ref a0), .val (.int p1), .val (.int p2)] [(.long (w_y_a0.toInt64)), (.long (p2.toInt64))])) (fun _ k => XS.i2l X10.here hx rfl (hb hby d3_39) rfl k) ?_
        refine go (B := T10.setTop (mkF m 41 #[.val (.ref a0), .val (.int p1), .val (.int p2)] [(.long ((p2.toInt64) - (w_y_a0.toInt64)))])) (fun _ k => XS.lsub X10.here hx rfl (hb hby d3_40) rfl k) ?_
        refine go (B := T10.setTop (mkF m 42 #[.val (.ref a0), .val (.int p1), .val (.int p2)] [(.ref a0), (.long ((p2.toInt64) - (w_y_a0.toInt64)))])) (fun _ k => XS.aloadN X10.here hx rfl (hb hby d3_41) rfl rfl k) ?_
        obtain ⟨T11, X11, e11, st11⟩ := getF X10 hx hZ hown (host := "") (Or.inl (hw _ (List.mem_of_getElem? (i := 15) rfl))) Via.refl e10 F_height_a0 (g := (mkF m 42 #[.val (.ref a0), .val (.int p1), .val (.int p2)] [(.ref a0), (.long ((p2.toInt64) - (w_y_a0.toInt64)))])) rfl rfl (hb hby d3_42)
        refine go (B := T11.setTop (mkF m 45 #[.val (.ref a0), .val (.int p1), .val (.int p2)] [(.int w_height_a0), (.long ((p2.toInt64) - (w_y_a0.toInt64)))])) st11 ?_
        refine go (B := T11.setTop (mkF m 46 #[.val (.ref a0), .val (.int p1), .val (.int p2)] [(.long (w_height_a0.toInt64)), (.long ((p2.toInt64) - (w_y_a0.toInt64)))])) (fun _ k => XS.i2l X11.here hx rfl (hb hby d3_45) rfl k) ?_
        refine go (B := T11.setTop (mkF m 47 #[.val (.ref a0), .val (.int p1), .val (.int p2)] [(.int (lcmpW ((p2.toInt64) - (w_y_a0.toInt64)) (w_height_a0.toInt64)))])) (fun _ k => XS.lcmp X11.here hx rfl (hb hby d3_46) rfl k) ?_
        by_cases hc12 : (lcmpW ((p2.toInt64) - (w_y_a0.toInt64)) (w_height_a0.toInt64)) < (0 : Int32)
        · refine go (B := T11.setTop (mkF m 50 #[.val (.ref a0), .val (.int p1), .val (.int p2)] [])) (fun _ k => XS.ifNo X11.here hx rfl (hb hby d3_47) rfl ((if0 _ _).trans (tlt hc12).2.1) k) ?_
          refine go (B := T11.setTop (mkF m 51 #[.val (.ref a0), .val (.int p1), .val (.int p2)] [(.int (1 : Int32))])) (fun _ k => XS.iconst X11.here hx rfl (hb hby d3_50) k) ?_
          refine go (B := T11.setTop (mkF m 55 #[.val (.ref a0), .val (.int p1), .val (.int p2)] [(.int (1 : Int32))])) (fun _ k => XS.goto X11.here hx rfl (pc0 := 51) (pc' := 55) rfl (hb hby d3_51) (by decide) (by decide) k) ?_
          have r13 : (f3 p1 p2 w_x_a0 w_width_a0 w_y_a0 w_height_a0) = (1 : Int32) := by unfold f3; rw [if_neg hc2, if_pos hc6, if_neg hc8, if_pos hc12]
          exact end_nar X11 hx Bd.notSynchronized (t := .boolean) Bd.returns (by simp) (hb hby d3_55) hF e11 (by decide) (by decide) ⟨(congrArg (fun z => some (Value.int z)) r13.symm), rfl, rfl⟩
        · refine go (B := T11.setTop (mkF m 54 #[.val (.ref a0), .val (.int p1), .val (.int p2)] [])) (fun _ k => XS.ifYes X11.here hx rfl (pc0 := 47) (pc' := 54) rfl (hb hby d3_47) rfl ((if0 _ _).trans (flt hc12).2.1) (by decide) (by decide) k) ?_
          refine go (B := T11.setTop (mkF m 55 #[.val (.ref a0), .val (.int p1), .val (.int p2)] [(.int (0 : Int32))])) (fun _ k => XS.iconst X11.here hx rfl (hb hby d3_54) k) ?_
          have r14 : (f3 p1 p2 w_x_a0 w_width_a0 w_y_a0 w_height_a0) = (0 : Int32) := by unfold f3; rw [if_neg hc2, if_pos hc6, if_neg hc8, if_neg hc12]
          exact end_nar X11 hx Bd.notSynchronized (t := .boolean) Bd.returns (by simp) (hb hby d3_55) hF e11 (by decide) (by decide) ⟨(congrArg (fun z => some (Value.int z)) r14.symm), rfl, rfl⟩
    · refine go (B := T5.setTop (mkF m 54 #[.val (.ref a0), .val (.int p1), .val (.int p2)] [])) (fun _ k => XS.ifYes X5.here hx rfl (pc0 := 22) (pc' := 54) rfl (hb hby d3_22) rfl ((if0 _ _).trans (flt hc6).2.1) (by decide) (by decide) k) ?_
      refine go (B := T5.setTop (mkF m 55 #[.val (.ref a0), .val (.int p1), .val (.int p2)] [(.int (0 : Int32))])) (fun _ k => XS.iconst X5.here hx rfl (hb hby d3_54) k) ?_
      have r15 : (f3 p1 p2 w_x_a0 w_width_a0 w_y_a0 w_height_a0) = (0 : Int32) := by unfold f3; rw [if_neg hc2, if_neg hc6]
      exact end_nar X5 hx Bd.notSynchronized (t := .boolean) Bd.returns (by simp) (hb hby d3_55) hF e5 (by decide) (by decide) ⟨(congrArg (fun z => some (Value.int z)) r15.symm), rfl, rfl⟩
theorem d4_0 : decode method_2_code 0 = .ok (.iload_n 0, 1) := by decide +kernel
theorem d4_1 : decode method_2_code 1 = .ok (.i2l, 1) := by decide +kernel
theorem d4_2 : decode method_2_code 2 = .ok (.lstore_n 3, 1) := by decide +kernel
theorem d4_3 : decode method_2_code 3 = .ok (.iload_n 1, 1) := by decide +kernel
theorem d4_4 : decode method_2_code 4 = .ok (.i2l, 1) := by decide +kernel
theorem d4_5 : decode method_2_code 5 = .ok (.lstore 5, 2) := by decide +kernel
theorem d4_7 : decode method_2_code 7 = .ok (.lload 5, 2) := by decide +kernel
theorem d4_9 : decode method_2_code 9 = .ok (.iload_n 2, 1) := by decide +kernel
theorem d4_10 : decode method_2_code 10 = .ok (.i2l, 1) := by decide +kernel
theorem d4_11 : decode method_2_code 11 = .ok (.ladd, 1) := by decide +kernel
theorem d4_12 : decode method_2_code 12 = .ok (.lstore 7, 2) := by decide +kernel
theorem d4_14 : decode method_2_code 14 = .ok (.lload 5, 2) := by decide +kernel
theorem d4_16 : decode method_2_code 16 = .ok (.lload_n 3, 1) := by decide +kernel
theorem d4_17 : decode method_2_code 17 = .ok (.lcmp, 1) := by decide +kernel
theorem d4_18 : decode method_2_code 18 = .ok (.ifCond .gt 14, 3) := by decide +kernel
theorem d4_21 : decode method_2_code 21 = .ok (.lload_n 3, 1) := by decide +kernel
theorem d4_22 : decode method_2_code 22 = .ok (.lload 7, 2) := by decide +kernel
theorem d4_24 : decode method_2_code 24 = .ok (.lcmp, 1) := by decide +kernel
theorem d4_25 : decode method_2_code 25 = .ok (.ifCond .ge 7, 3) := by decide +kernel
theorem d4_28 : decode method_2_code 28 = .ok (.iconst 1, 1) := by decide +kernel
theorem d4_29 : decode method_2_code 29 = .ok (.goto 4, 3) := by decide +kernel
theorem d4_32 : decode method_2_code 32 = .ok (.iconst 0, 1) := by decide +kernel
theorem d4_33 : decode method_2_code 33 = .ok (.ireturn, 1) := by decide +kernel
theorem pn_4 : plainName "com/example/fenced_widget/fencedwidget/fence/BoundsContainsPinLaw" = true := by first | (simp [plainName, overriddenIn]; done) | decide +kernel
theorem ef_4 (m : MethodId) (p0 : Int32) (p1 : Int32) (p2 : Int32) : entryFrame m #[(.int p0), (.int p1), (.int p2)] 9 = mkF m 0 #[.val (.int p0), .val (.int p1), .val (.int p2), .unset, .unset, .unset, .unset, .unset, .unset] [] := by first | (simp [entryFrame, mkF, argsToLocals, Value.category]; done) | rfl
def f4 (p0 : Int32) (p1 : Int32) (p2 : Int32) : Int32 := if (0 : Int32) < (lcmpW (p1.toInt64) (p0.toInt64)) then (0 : Int32) else if (lcmpW (p0.toInt64) ((p1.toInt64) + (p2.toInt64))) < (0 : Int32) then (1 : Int32) else (0 : Int32)
abbrev room4 : Room := { frames := 0, cells := 0, slots := 0, locals := 0 }
def Q4 (Z : State) (p0 : Int32) (p1 : Int32) (p2 : Int32) (h0 : Heap) (n0 : Nat) (v : Option Value) (h : Heap) (L : List Loc) : Prop := v = some (.int (f4 p0 p1 p2)) ∧ L = [] ∧ h = h0
set_option maxRecDepth 65536 in
set_option maxHeartbeats 40000000 in
theorem rm4 (l : Launch) (Z : State) (aw : Array Value) (hw : ∀ d ∈ tables_1, d.before aw Z = true) (ws : List Jvm.Cond) (p0 : Int32) (p1 : Int32) (p2 : Int32) (h0 : Heap) (n0 : Nat) (Z0 : n0 ≤ h0.size) :
    MetFree l (⟨"com/example/fenced_widget/fencedwidget/fence/BoundsContainsPinLaw", "inSpan", "(III)Z"⟩ : MethodName) (head1 (Jvm.Cond.code (⟨"com/example/fenced_widget/fencedwidget/fence/BoundsContainsPinLaw", "inSpan", "(III)Z"⟩ : MethodName) method_2_code 9 (some .boolean) :: ws) room4) (fun a U => a = #[(.int p0), (.int p1), (.int p2)] ∧ Z.Warmed39 U.vm ∧ U.heap = h0) (fun _ _ _ _ _ => True) (fun _ U o U' => ∃ v L, o = .returned v ∧ Q4 Z p0 p1 p2 h0 n0 v U'.heap L ∧ FrameEnd U o U' L room4.cells room4.slots) := by
  refine MetFree.of_bodySF (plainFor_of_name pn_4) hisR ?_
  intro p e s m args below meth c s₁ Bd hml0 hP hK
  obtain ⟨rfl, hZ, hh⟩ := hP
  have hx := Bd.exec
  have hby := Bd.bytes
  have hml : c.maxLocals = 9 := hml0
  have hown : s.vm.findClass "com/example/fenced_widget/fencedwidget/fence/BoundsContainsPinLaw" = some m.cls := findClass_of_methodNamed Bd.named
  have hnm := (name_of_methodNamed Bd.named Bd.method).1
  have X0 : Stand p l e room4 s m #[(.int p0), (.int p1), (.int p2)] below meth c s₁ [] 0 0 := Stand.of_body Bd
  have e0 : s₁.heap = h0 := by rw [← hh, Bd.state]; rfl
  have N0 := Fr.nil n0
  rw [ef_4 m p0 p1 p2]
  refine go_in (s₁ := s₁) (Q := Q4 Z p0 p1 p2 h0 n0) fun F hF => ?_
  refine go (B := s₁.setTop (mkF m 1 #[.val (.int p0), .val (.int p1), .val (.int p2), .unset, .unset, .unset, .unset, .unset, .unset] [(.int p0)])) (fun _ k => XS.iloadN X0.here hx rfl (hb hby d4_0) rfl k) ?_
  refine go (B := s₁.setTop (mkF m 2 #[.val (.int p0), .val (.int p1), .val (.int p2), .unset, .unset, .unset, .unset, .unset, .unset] [(.long (p0.toInt64))])) (fun _ k => XS.i2l X0.here hx rfl (hb hby d4_1) rfl k) ?_
  refine go (B := s₁.setTop (mkF m 3 #[.val (.int p0), .val (.int p1), .val (.int p2), .val (.long (p0.toInt64)), .second, .unset, .unset, .unset, .unset] [])) (fun _ k => XS.lstoreN X0.here hx rfl (hb hby d4_2) rfl (l' := #[.val (.int p0), .val (.int p1), .val (.int p2), .val (.long (p0.toInt64)), .second, .unset, .unset, .unset, .unset]) rfl k) ?_
  refine go (B := s₁.setTop (mkF m 4 #[.val (.int p0), .val (.int p1), .val (.int p2), .val (.long (p0.toInt64)), .second, .unset, .unset, .unset, .unset] [(.int p1)])) (fun _ k => XS.iloadN X0.here hx rfl (hb hby d4_3) rfl k) ?_
  refine go (B := s₁.setTop (mkF m 5 #[.val (.int p0), .val (.int p1), .val (.int p2), .val (.long (p0.toInt64)), .second, .unset, .unset, .unset, .unset] [(.long (p1.toInt64))])) (fun _ k => XS.i2l X0.here hx rfl (hb hby d4_4) rfl k) ?_
  refine go (B := s₁.setTop (mkF m 7 #[.val (.int p0), .val (.int p1), .val (.int p2), .val (.long (p0.toInt64)), .second, .val (.long (p1.toInt64)), .second, .unset, .unset] [])) (fun _ k => XS.lstore X0.here hx rfl (hb hby d4_5) rfl (l' := #[.val (.int p0), .val (.int p1), .val (.int p2), .val (.long (p0.toInt64)), .second, .val (.long (p1.toInt64)), .second, .unset, .unset]) rfl k) ?_
  refine go (B := s₁.setTop (mkF m 9 #[.val (.int p0), .val (.int p1), .val (.int p2), .val (.long (p0.toInt64)), .second, .val (.long (p1.toInt64)), .second, .unset, .unset] [(.long (p1.toInt64))])) (fun _ k => XS.lload X0.here hx rfl (hb hby d4_7) rfl k) ?_
  refine go (B := s₁.setTop (mkF m 10 #[.val (.int p0), .val (.int p1), .val (.int p2), .val (.long (p0.toInt64)), .second, .val (.long (p1.toInt64)), .second, .unset, .unset] [(.int p2), (.long (p1.toInt64))])) (fun _ k => XS.iloadN X0.here hx rfl (hb hby d4_9) rfl k) ?_
  refine go (B := s₁.setTop (mkF m 11 #[.val (.int p0), .val (.int p1), .val (.int p2), .val (.long (p0.toInt64)), .second, .val (.long (p1.toInt64)), .second, .unset, .unset] [(.long (p2.toInt64)), (.long (p1.toInt64))])) (fun _ k => XS.i2l X0.here hx rfl (hb hby d4_10) rfl k) ?_
  refine go (B := s₁.setTop (mkF m 12 #[.val (.int p0), .val (.int p1), .val (.int p2), .val (.long (p0.toInt64)), .second, .val (.long (p1.toInt64)), .second, .unset, .unset] [(.long ((p1.toInt64) + (p2.toInt64)))])) (fun _ k => XS.ladd X0.here hx rfl (hb hby d4_11) rfl k) ?_
  refine go (B := s₁.setTop (mkF m 14 #[.val (.int p0), .val (.int p1), .val (.int p2), .val (.long (p0.toInt64)), .second, .val (.long (p1.toInt64)), .second, .val (.long ((p1.toInt64) + (p2.toInt64))), .second] [])) (fun _ k => XS.lstore X0.here hx rfl (hb hby d4_12) rfl (l' := #[.val (.int p0), .val (.int p1), .val (.int p2), .val (.long (p0.toInt64)), .second, .val (.long (p1.toInt64)), .second, .val (.long ((p1.toInt64) + (p2.toInt64))), .second]) rfl k) ?_
  refine go (B := s₁.setTop (mkF m 16 #[.val (.int p0), .val (.int p1), .val (.int p2), .val (.long (p0.toInt64)), .second, .val (.long (p1.toInt64)), .second, .val (.long ((p1.toInt64) + (p2.toInt64))), .second] [(.long (p1.toInt64))])) (fun _ k => XS.lload X0.here hx rfl (hb hby d4_14) rfl k) ?_
  refine go (B := s₁.setTop (mkF m 17 #[.val (.int p0), .val (.int p1), .val (.int p2), .val (.long (p0.toInt64)), .second, .val (.long (p1.toInt64)), .second, .val (.long ((p1.toInt64) + (p2.toInt64))), .second] [(.long (p0.toInt64)), (.long (p1.toInt64))])) (fun _ k => XS.lloadN X0.here hx rfl (hb hby d4_16) rfl k) ?_
  refine go (B := s₁.setTop (mkF m 18 #[.val (.int p0), .val (.int p1), .val (.int p2), .val (.long (p0.toInt64)), .second, .val (.long (p1.toInt64)), .second, .val (.long ((p1.toInt64) + (p2.toInt64))), .second] [(.int (lcmpW (p1.toInt64) (p0.toInt64)))])) (fun _ k => XS.lcmp X0.here hx rfl (hb hby d4_17) rfl k) ?_
  by_cases hc1 : (0 : Int32) < (lcmpW (p1.toInt64) (p0.toInt64))
  · refine go (B := s₁.setTop (mkF m 32 #[.val (.int p0), .val (.int p1), .val (.int p2), .val (.long (p0.toInt64)), .second, .val (.long (p1.toInt64)), .second, .val (.long ((p1.toInt64) + (p2.toInt64))), .second] [])) (fun _ k => XS.ifYes X0.here hx rfl (pc0 := 18) (pc' := 32) rfl (hb hby d4_18) rfl ((if0 _ _).trans (tlt hc1).2.2.1) (by decide) (by decide) k) ?_
    refine go (B := s₁.setTop (mkF m 33 #[.val (.int p0), .val (.int p1), .val (.int p2), .val (.long (p0.toInt64)), .second, .val (.long (p1.toInt64)), .second, .val (.long ((p1.toInt64) + (p2.toInt64))), .second] [(.int (0 : Int32))])) (fun _ k => XS.iconst X0.here hx rfl (hb hby d4_32) k) ?_
    have r2 : (f4 p0 p1 p2) = (0 : Int32) := by unfold f4; rw [if_pos hc1]
    exact end_nar X0 hx Bd.notSynchronized (t := .boolean) Bd.returns (by simp) (hb hby d4_33) hF e0 (by decide) (by decide) ⟨(congrArg (fun z => some (Value.int z)) r2.symm), rfl, rfl⟩
  · refine go (B := s₁.setTop (mkF m 21 #[.val (.int p0), .val (.int p1), .val (.int p2), .val (.long (p0.toInt64)), .second, .val (.long (p1.toInt64)), .second, .val (.long ((p1.toInt64) + (p2.toInt64))), .second] [])) (fun _ k => XS.ifNo X0.here hx rfl (hb hby d4_18) rfl ((if0 _ _).trans (flt hc1).2.2.1) k) ?_
    refine go (B := s₁.setTop (mkF m 22 #[.val (.int p0), .val (.int p1), .val (.int p2), .val (.long (p0.toInt64)), .second, .val (.long (p1.toInt64)), .second, .val (.long ((p1.toInt64) + (p2.toInt64))), .second] [(.long (p0.toInt64))])) (fun _ k => XS.lloadN X0.here hx rfl (hb hby d4_21) rfl k) ?_
    refine go (B := s₁.setTop (mkF m 24 #[.val (.int p0), .val (.int p1), .val (.int p2), .val (.long (p0.toInt64)), .second, .val (.long (p1.toInt64)), .second, .val (.long ((p1.toInt64) + (p2.toInt64))), .second] [(.long ((p1.toInt64) + (p2.toInt64))), (.long (p0.toInt64))])) (fun _ k => XS.lload X0.here hx rfl (hb hby d4_22) rfl k) ?_
    refine go (B := s₁.setTop (mkF m 25 #[.val (.int p0), .val (.int p1), .val (.int p2), .val (.long (p0.toInt64)), .second, .val (.long (p1.toInt64)), .second, .val (.long ((p1.toInt64) + (p2.toInt64))), .second] [(.int (lcmpW (p0.toInt64) ((p1.toInt64) + (p2.toInt64))))])) (fun _ k => XS.lcmp X0.here hx rfl (hb hby d4_24) rfl k) ?_
    by_cases hc3 : (lcmpW (p0.toInt64) ((p1.toInt64) + (p2.toInt64))) < (0 : Int32)
    · refine go (B := s₁.setTop (mkF m 28 #[.val (.int p0), .val (.int p1), .val (.int p2), .val (.long (p0.toInt64)), .second, .val (.long (p1.toInt64)), .second, .val (.long ((p1.toInt64) + (p2.toInt64))), .second] [])) (fun _ k => XS.ifNo X0.here hx rfl (hb hby d4_25) rfl ((if0 _ _).trans (tlt hc3).2.1) k) ?_
      refine go (B := s₁.setTop (mkF m 29 #[.val (.int p0), .val (.int p1), .val (.int p2), .val (.long (p0.toInt64)), .second, .val (.long (p1.toInt64)), .second, .val (.long ((p1.toInt64) + (p2.toInt64))), .second] [(.int (1 : Int32))])) (fun _ k => XS.iconst X0.here hx rfl (hb hby d4_28) k) ?_
      refine go (B := s₁.setTop (mkF m 33 #[.val (.int p0), .val (.int p1), .val (.int p2), .val (.long (p0.toInt64)), .second, .val (.long (p1.toInt64)), .second, .val (.long ((p1.toInt64) + (p2.toInt64))), .second] [(.int (1 : Int32))])) (fun _ k => XS.goto X0.here hx rfl (pc0 := 29) (pc' := 33) rfl (hb hby d4_29) (by decide) (by decide) k) ?_
      have r4 : (f4 p0 p1 p2) = (1 : Int32) := by unfold f4; rw [if_neg hc1, if_pos hc3]
      exact end_nar X0 hx Bd.notSynchronized (t := .boolean) Bd.returns (by simp) (hb hby d4_33) hF e0 (by decide) (by decide) ⟨(congrArg (fun z => some (Value.int z)) r4.symm), rfl, rfl⟩
    · refine go (B := s₁.setTop (mkF m 32 #[.val (.int p0), .val (.int p1), .val (.int p2), .val (.long (p0.toInt64)), .second, .val (.long (p1.toInt64)), .second, .val (.long ((p1.toInt64) + (p2.toInt64))), .second] [])) (fun _ k => XS.ifYes X0.here hx rfl (pc0 := 25) (pc' := 32) rfl (hb hby d4_25) rfl ((if0 _ _).trans (flt hc3).2.1) (by decide) (by decide) k) ?_
      refine go (B := s₁.setTop (mkF m 33 #[.val (.int p0), .val (.int p1), .val (.int p2), .val (.long (p0.toInt64)), .second, .val (.long (p1.toInt64)), .second, .val (.long ((p1.toInt64) + (p2.toInt64))), .second] [(.int (0 : Int32))])) (fun _ k => XS.iconst X0.here hx rfl (hb hby d4_32) k) ?_
      have r5 : (f4 p0 p1 p2) = (0 : Int32) := by unfold f4; rw [if_neg hc1, if_neg hc3]
      exact end_nar X0 hx Bd.notSynchronized (t := .boolean) Bd.returns (by simp) (hb hby d4_33) hF e0 (by decide) (by decide) ⟨(congrArg (fun z => some (Value.int z)) r5.symm), rfl, rfl⟩
theorem pd_0 : parseMethodDescriptor "(IIII)V" = some ⟨[.int, .int, .int, .int], none⟩ := by decide +kernel
theorem pd_1 : parseMethodDescriptor "(II)Z" = some ⟨[.int, .int], some .boolean⟩ := by decide +kernel
theorem pd_2 : parseMethodDescriptor "(III)Z" = some ⟨[.int, .int, .int], some .boolean⟩ := by decide +kernel
theorem ef_0 (m : MethodId) (p0 : Int32) (p1 : Int32) (p2 : Int32) (p3 : Int32) (p4 : Int32) (p5 : Int32) : entryFrame m #[(.int p0), (.int p1), (.int p2), (.int p3), (.int p4), (.int p5)] maxLocals = mkF m 0 #[.val (.int p0), .val (.int p1), .val (.int p2), .val (.int p3), .val (.int p4), .val (.int p5), .unset, .unset, .unset, .unset, .unset] [] := by first | (simp [entryFrame, mkF, argsToLocals, Value.category, maxLocals]; done) | rfl
def f0_z0 (p0 : Int32) (p1 : Int32) (p2 : Int32) (p3 : Int32) (p4 : Int32) (p5 : Int32) : Int32 := if (f4 (p0 + p4) p0 p2) = (0 : Int32) then (0 : Int32) else if (f4 (p1 + p5) p1 p3) = (0 : Int32) then (0 : Int32) else (1 : Int32)
def f0 (p0 : Int32) (p1 : Int32) (p2 : Int32) (p3 : Int32) (p4 : Int32) (p5 : Int32) : Int32 := if (f3 (p0 + p4) (p1 + p5) p0 p2 p1 p3) = (f0_z0 p0 p1 p2 p3 p4 p5) then (1 : Int32) else (0 : Int32)
theorem own_bd (x : Int32) : -2147483648 ≤ x.toInt ∧ x.toInt ≤ 2147483647 := ⟨Int32.le_toInt x, by have := Int32.toInt_lt x; omega⟩
theorem own_wide (x : Int32) : x.toInt64.toInt = x.toInt := Int32.toInt_toInt64 x
theorem own_add (x y : Int32) : (x.toInt64 + y.toInt64).toInt = x.toInt + y.toInt := by
  have := own_bd x; have := own_bd y
  rw [Int64.toInt_add, own_wide, own_wide]
  exact Int.bmod_eq_of_le (by omega) (by omega)
theorem own_sub (x y : Int32) : (x.toInt64 - y.toInt64).toInt = x.toInt - y.toInt := by
  have := own_bd x; have := own_bd y
  rw [Int64.toInt_sub, own_wide, own_wide]
  exact Int.bmod_eq_of_le (by omega) (by omega)
theorem own_f4 (a b c : Int32) : f4 a b c = if b.toInt ≤ a.toInt ∧ a.toInt < b.toInt + c.toInt then 1 else 0 := by
  simp only [f4, lw_lt, lw_gt, Int64.lt_iff_toInt_lt, own_add, own_wide]
  repeat' split
  all_goals first | rfl | (exfalso; omega)
theorem own_f3 (p1 p2 x w y h : Int32) : f3 p1 p2 x w y h = if (x.toInt ≤ p1.toInt ∧ p1.toInt < x.toInt + w.toInt) ∧ (y.toInt ≤ p2.toInt ∧ p2.toInt < y.toInt + h.toInt) then 1 else 0 := by
  simp only [f3, lw_lt, lw_gt]
  simp only [Int64.lt_iff_toInt_lt, Int32.lt_iff_toInt_lt, own_sub, own_wide]
  repeat' split
  all_goals first | rfl | (exfalso; omega)
theorem own_law (p0 p1 p2 p3 p4 p5 : Int32) : f0 p0 p1 p2 p3 p4 p5 = 1 := by
  unfold f0 f0_z0
  rw [own_f3, own_f4, own_f4]
  by_cases h1 : p0.toInt ≤ (p0 + p4).toInt ∧ (p0 + p4).toInt < p0.toInt + p2.toInt
  · by_cases h2 : p1.toInt ≤ (p1 + p5).toInt ∧ (p1 + p5).toInt < p1.toInt + p3.toInt
    · rw [if_pos (And.intro h1 h2), if_pos h1, if_pos h2]; rfl
    · have h3 : ¬ ((p0.toInt ≤ (p0 + p4).toInt ∧ (p0 + p4).toInt < p0.toInt + p2.toInt) ∧ (p1.toInt ≤ (p1 + p5).toInt ∧ (p1 + p5).toInt < p1.toInt + p3.toInt)) := fun q => h2 q.2
      rw [if_neg h3, if_pos h1, if_neg h2]; rfl
  · have h3 : ¬ ((p0.toInt ≤ (p0 + p4).toInt ∧ (p0 + p4).toInt < p0.toInt + p2.toInt) ∧ (p1.toInt ≤ (p1 + p5).toInt ∧ (p1 + p5).toInt < p1.toInt + p3.toInt)) := fun q => h1 q.1
    rw [if_neg h3, if_neg h1]; rfl
def Q0 (Z : State) (p0 : Int32) (p1 : Int32) (p2 : Int32) (p3 : Int32) (p4 : Int32) (p5 : Int32) (h0 : Heap) (n0 : Nat) (v : Option Value) (h : Heap) (L : List Loc) : Prop := v = some (.int (1 : Int32)) ∧ Fr n0 L
set_option maxRecDepth 65536 in
set_option maxHeartbeats 40000000 in
theorem rm0 (l : Launch) (Z : State) (aw : Array Value) (hw : ∀ d ∈ tables_1, d.before aw Z = true) (ws : List Jvm.Cond) (p0 : Int32) (p1 : Int32) (p2 : Int32) (p3 : Int32) (p4 : Int32) (p5 : Int32) (h0 : Heap) (n0 : Nat) (Z0 : n0 ≤ h0.size) :
    MetFree l x (head1 (Jvm.Cond.code x code maxLocals ret :: ws) room_1) (fun a U => a = #[(.int p0), (.int p1), (.int p2), (.int p3), (.int p4), (.int p5)] ∧ Z.Warmed39 U.vm ∧ U.heap = h0) (fun _ _ _ _ _ => True) (fun _ U o U' => ∃ v L, o = .returned v ∧ Q0 Z p0 p1 p2 p3 p4 p5 h0 n0 v U'.heap L ∧ FrameEnd U o U' L room_1.cells room_1.slots) := by
  refine MetFree.of_bodySF (plainFor_of_name pn_4) hisR ?_
  intro p e s m args below meth c s₁ Bd hml0 hP hK
  obtain ⟨rfl, hZ, hh⟩ := hP
  have hx := Bd.exec
  have hby := Bd.bytes
  have hml : c.maxLocals = 11 := hml0
  have hown : s.vm.findClass "com/example/fenced_widget/fencedwidget/fence/BoundsContainsPinLaw" = some m.cls := findClass_of_methodNamed Bd.named
  have hnm := (name_of_methodNamed Bd.named Bd.method).1
  have X0 : Stand p l e room_1 s m #[(.int p0), (.int p1), (.int p2), (.int p3), (.int p4), (.int p5)] below meth c s₁ [] 0 0 := Stand.of_body Bd
  have e0 : s₁.heap = h0 := by rw [← hh, Bd.state]; rfl
  have N0 := Fr.nil n0
  rw [ef_0 m p0 p1 p2 p3 p4 p5]
  refine go_in (s₁ := s₁) (Q := Q0 Z p0 p1 p2 p3 p4 p5 h0 n0) fun F hF => ?_
  refine go (B := s₁.setTop (mkF m 1 #[.val (.int p0), .val (.int p1), .val (.int p2), .val (.int p3), .val (.int p4), .val (.int p5), .unset, .unset, .unset, .unset, .unset] [(.int p0)])) (fun _ k => XS.iloadN X0.here hx rfl (hb hby at_0) rfl k) ?_
  refine go (B := s₁.setTop (mkF m 3 #[.val (.int p0), .val (.int p1), .val (.int p2), .val (.int p3), .val (.int p4), .val (.int p5), .unset, .unset, .unset, .unset, .unset] [(.int p4), (.int p0)])) (fun _ k => XS.iload X0.here hx rfl (hb hby at_1) rfl k) ?_
  refine go (B := s₁.setTop (mkF m 4 #[.val (.int p0), .val (.int p1), .val (.int p2), .val (.int p3), .val (.int p4), .val (.int p5), .unset, .unset, .unset, .unset, .unset] [(.int (p0 + p4))])) (fun _ k => XS.iadd X0.here hx rfl (hb hby at_3) rfl k) ?_
  refine go (B := s₁.setTop (mkF m 6 #[.val (.int p0), .val (.int p1), .val (.int p2), .val (.int p3), .val (.int p4), .val (.int p5), .val (.int (p0 + p4)), .unset, .unset, .unset, .unset] [])) (fun _ k => XS.istore X0.here hx rfl (hb hby at_4) rfl (l' := #[.val (.int p0), .val (.int p1), .val (.int p2), .val (.int p3), .val (.int p4), .val (.int p5), .val (.int (p0 + p4)), .unset, .unset, .unset, .unset]) rfl k) ?_
  refine go (B := s₁.setTop (mkF m 7 #[.val (.int p0), .val (.int p1), .val (.int p2), .val (.int p3), .val (.int p4), .val (.int p5), .val (.int (p0 + p4)), .unset, .unset, .unset, .unset] [(.int p1)])) (fun _ k => XS.iloadN X0.here hx rfl (hb hby at_6) rfl k) ?_
  refine go (B := s₁.setTop (mkF m 9 #[.val (.int p0), .val (.int p1), .val (.int p2), .val (.int p3), .val (.int p4), .val (.int p5), .val (.int (p0 + p4)), .unset, .unset, .unset, .unset] [(.int p5), (.int p1)])) (fun _ k => XS.iload X0.here hx rfl (hb hby at_7) rfl k) ?_
  refine go (B := s₁.setTop (mkF m 10 #[.val (.int p0), .val (.int p1), .val (.int p2), .val (.int p3), .val (.int p4), .val (.int p5), .val (.int (p0 + p4)), .unset, .unset, .unset, .unset] [(.int (p1 + p5))])) (fun _ k => XS.iadd X0.here hx rfl (hb hby at_9) rfl k) ?_
  refine go (B := s₁.setTop (mkF m 12 #[.val (.int p0), .val (.int p1), .val (.int p2), .val (.int p3), .val (.int p4), .val (.int p5), .val (.int (p0 + p4)), .val (.int (p1 + p5)), .unset, .unset, .unset] [])) (fun _ k => XS.istore X0.here hx rfl (hb hby at_10) rfl (l' := #[.val (.int p0), .val (.int p1), .val (.int p2), .val (.int p3), .val (.int p4), .val (.int p5), .val (.int (p0 + p4)), .val (.int (p1 + p5)), .unset, .unset, .unset]) rfl k) ?_
  obtain ⟨T1, h1, X1, e1, E1, A1, D1, -, st1⟩ := newO X0 hx hZ hown (hw _ (List.mem_of_getElem? (i := 0) rfl)) (hw _ (List.mem_of_getElem? (i := 1) rfl)) (hw _ (List.mem_of_getElem? (i := 2) rfl)) e0 (g := (mkF m 12 #[.val (.int p0), .val (.int p1), .val (.int p2), .val (.int p3), .val (.int p4), .val (.int p5), .val (.int (p0 + p4)), .val (.int (p1 + p5)), .unset, .unset, .unset] [])) rfl (hb hby at_12) (by decide) (by decide)
  obtain ⟨b1, g1⟩ : ∃ z, z = h0.size := ⟨_, rfl⟩
  rw [← g1] at A1 D1 st1
  have g_b1 : n0 ≤ b1 := Nat.le_trans Z0 (Nat.le_of_eq g1.symm)
  have Z1 := Nat.le_trans Z0 E1.1
  have F_x_b1 : Fld Z h1 b1 "com/example/fenced_widget/fencedwidget/fence/Bounds" "x" "I" (.int (0 : Int32)) := D1 (Or.inr (hw _ (List.mem_of_getElem? (i := 10) rfl))) (ty := .int) (by decide)
  have F_y_b1 : Fld Z h1 b1 "com/example/fenced_widget/fencedwidget/fence/Bounds" "y" "I" (.int (0 : Int32)) := D1 (Or.inr (hw _ (List.mem_of_getElem? (i := 12) rfl))) (ty := .int) (by decide)
  have F_width_b1 : Fld Z h1 b1 "com/example/fenced_widget/fencedwidget/fence/Bounds" "width" "I" (.int (0 : Int32)) := D1 (Or.inr (hw _ (List.mem_of_getElem? (i := 14) rfl))) (ty := .int) (by decide)
  have F_height_b1 : Fld Z h1 b1 "com/example/fenced_widget/fencedwidget/fence/Bounds" "height" "I" (.int (0 : Int32)) := D1 (Or.inr (hw _ (List.mem_of_getElem? (i := 16) rfl))) (ty := .int) (by decide)
  have E_b1 := A1
  refine go (B := T1.setTop (mkF m 15 #[.val (.int p0), .val (.int p1), .val (.int p2), .val (.int p3), .val (.int p4), .val (.int p5), .val (.int (p0 + p4)), .val (.int (p1 + p5)), .unset, .unset, .unset] [(.ref b1)])) st1 ?_
  refine go (B := T1.setTop (mkF m 16 #[.val (.int p0), .val (.int p1), .val (.int p2), .val (.int p3), .val (.int p4), .val (.int p5), .val (.int (p0 + p4)), .val (.int (p1 + p5)), .unset, .unset, .unset] [(.ref b1), (.ref b1)])) (fun _ k => XS.dup X1.here hx rfl (hb hby at_15) rfl rfl k) ?_
  refine go (B := T1.setTop (mkF m 17 #[.val (.int p0), .val (.int p1), .val (.int p2), .val (.int p3), .val (.int p4), .val (.int p5), .val (.int (p0 + p4)), .val (.int (p1 + p5)), .unset, .unset, .unset] [(.int p0), (.ref b1), (.ref b1)])) (fun _ k => XS.iloadN X1.here hx rfl (hb hby at_16) rfl k) ?_
  refine go (B := T1.setTop (mkF m 18 #[.val (.int p0), .val (.int p1), .val (.int p2), .val (.int p3), .val (.int p4), .val (.int p5), .val (.int (p0 + p4)), .val (.int (p1 + p5)), .unset, .unset, .unset] [(.int p1), (.int p0), (.ref b1), (.ref b1)])) (fun _ k => XS.iloadN X1.here hx rfl (hb hby at_17) rfl k) ?_
  refine go (B := T1.setTop (mkF m 19 #[.val (.int p0), .val (.int p1), .val (.int p2), .val (.int p3), .val (.int p4), .val (.int p5), .val (.int (p0 + p4)), .val (.int (p1 + p5)), .unset, .unset, .unset] [(.int p2), (.int p1), (.int p0), (.ref b1), (.ref b1)])) (fun _ k => XS.iloadN X1.here hx rfl (hb hby at_18) rfl k) ?_
  refine go (B := T1.setTop (mkF m 20 #[.val (.int p0), .val (.int p1), .val (.int p2), .val (.int p3), .val (.int p4), .val (.int p5), .val (.int (p0 + p4)), .val (.int (p1 + p5)), .unset, .unset, .unset] [(.int p3), (.int p2), (.int p1), (.int p0), (.ref b1), (.ref b1)])) (fun _ k => XS.iloadN X1.here hx rfl (hb hby at_19) rfl k) ?_
  obtain ⟨_, _, ⟨T2, L2, k2, n2⟩, -, X2, ⟨Lc2, hQ2, l2, y2, z2⟩, st2⟩ := X1.specialBack hx (y := (⟨"com/example/fenced_widget/fencedwidget/fence/Bounds", "<init>", "(IIII)V"⟩ : MethodName)) rfl hown (mvT hZ (hw _ (List.mem_of_getElem? (i := 3) rfl))) (mvT hZ (hw _ (List.mem_of_getElem? (i := 4) rfl))) (mvT hZ (hw _ (List.mem_of_getElem? (i := 5) rfl))) (by decide) (backOf (W := 1) (rm1 l Z aw hw [] b1 p0 p1 p2 p3 h1 n0 Z1 F_x_b1 F_y_b1 F_width_b1 F_height_b1 E_b1 g_b1) hZ (hw _ (List.mem_of_getElem? (i := 5) rfl)) (hw _ (List.mem_of_getElem? (i := 2) rfl)) (by decide) (by decide)) (g := (mkF m 20 #[.val (.int p0), .val (.int p1), .val (.int p2), .val (.int p3), .val (.int p4), .val (.int p5), .val (.int (p0 + p4)), .val (.int (p1 + p5)), .unset, .unset, .unset] [(.int p3), (.int p2), (.int p1), (.int p0), (.ref b1), (.ref b1)])) rfl (by rw [hml]; rfl) (Steps.refl _) (a := b1) (argsL := [(.int p0), (.int p1), (.int p2), (.int p3)]) (rest := [(.ref b1)]) (lenOf pd_0 rfl) rfl (by show 2 * 0 + _ ≤ _; exact Nat.le_of_eq rfl) (hb hby at_20) (fun _ _ => ⟨rfl, e1, (by decide : 1 + 0 ≤ _), (by decide : 4 + 0 ≤ _)⟩)
  dsimp only [Pt.U, Pt.locs, Pt.cells, Pt.slots] at X2 l2 y2 z2 st2 hQ2
  subst l2 y2 z2
  obtain ⟨rfl, N2q, Kc2, o2_0, o2_1, o2_2, o2_3, o2_4⟩ := hQ2
  have E_b1_2 := E_b1.keep Kc2
  have N2 := Fr.app N0 N2q
  have Z2 := Nat.le_trans Z1 Kc2.1
  refine go (B := T2.setTop (mkF m 23 #[.val (.int p0), .val (.int p1), .val (.int p2), .val (.int p3), .val (.int p4), .val (.int p5), .val (.int (p0 + p4)), .val (.int (p1 + p5)), .unset, .unset, .unset] [(.ref b1)])) (fun _ k => st2.trans k) ?_
  refine go (B := T2.setTop (mkF m 25 #[.val (.int p0), .val (.int p1), .val (.int p2), .val (.int p3), .val (.int p4), .val (.int p5), .val (.int (p0 + p4)), .val (.int (p1 + p5)), .val (.ref b1), .unset, .unset] [])) (fun _ k => XS.astore X2.here hx rfl (hb hby at_23) rfl rfl (l' := #[.val (.int p0), .val (.int p1), .val (.int p2), .val (.int p3), .val (.int p4), .val (.int p5), .val (.int (p0 + p4)), .val (.int (p1 + p5)), .val (.ref b1), .unset, .unset]) rfl k) ?_
  refine go (B := T2.setTop (mkF m 27 #[.val (.int p0), .val (.int p1), .val (.int p2), .val (.int p3), .val (.int p4), .val (.int p5), .val (.int (p0 + p4)), .val (.int (p1 + p5)), .val (.ref b1), .unset, .unset] [(.ref b1)])) (fun _ k => XS.aload X2.here hx rfl (hb hby at_25) rfl rfl k) ?_
  refine go (B := T2.setTop (mkF m 29 #[.val (.int p0), .val (.int p1), .val (.int p2), .val (.int p3), .val (.int p4), .val (.int p5), .val (.int (p0 + p4)), .val (.int (p1 + p5)), .val (.ref b1), .unset, .unset] [(.int (p0 + p4)), (.ref b1)])) (fun _ k => XS.iload X2.here hx rfl (hb hby at_27) rfl k) ?_
  refine go (B := T2.setTop (mkF m 31 #[.val (.int p0), .val (.int p1), .val (.int p2), .val (.int p3), .val (.int p4), .val (.int p5), .val (.int (p0 + p4)), .val (.int (p1 + p5)), .val (.ref b1), .unset, .unset] [(.int (p1 + p5)), (.int (p0 + p4)), (.ref b1)])) (fun _ k => XS.iload X2.here hx rfl (hb hby at_29) rfl k) ?_
  obtain ⟨cq3, kq3, q3a, q3b, q3c⟩ := isOf hZ rfl o2_0
  obtain ⟨_, _, ⟨T3, L3, k3, n3⟩, -, X3, ⟨Lc3, hQ3, l3, y3, z3⟩, st3⟩ := X2.virtualBack hx (y := (⟨"com/example/fenced_widget/fencedwidget/fence/Bounds", "contains", "(II)Z"⟩ : MethodName)) (z := (⟨"com/example/fenced_widget/fencedwidget/fence/Bounds", "contains", "(II)Z"⟩ : MethodName)) hown (mvT hZ (hw _ (List.mem_of_getElem? (i := 17) rfl))) (mvT hZ (hw _ (List.mem_of_getElem? (i := 18) rfl))) (notFace_of_selects (args := #[]) (mvT hZ (hw _ (List.mem_of_getElem? (i := 20) rfl)))) (mvT hZ (hw _ (List.mem_of_getElem? (i := 20) rfl))) (mvT hZ (hw _ (List.mem_of_getElem? (i := 19) rfl))) (by decide) (backOf (W := 0) (rm3 l Z aw hw [] b1 (p0 + p4) (p1 + p5) p0 p2 p1 p3 T2.heap n0 Z2 o2_1 o2_3 o2_2 o2_4) hZ (hw _ (List.mem_of_getElem? (i := 21) rfl)) (hw _ (List.mem_of_getElem? (i := 2) rfl)) (by decide) (by decide)) q3a q3c (g := (mkF m 31 #[.val (.int p0), .val (.int p1), .val (.int p2), .val (.int p3), .val (.int p4), .val (.int p5), .val (.int (p0 + p4)), .val (.int (p1 + p5)), .val (.ref b1), .unset, .unset] [(.int (p1 + p5)), (.int (p0 + p4)), (.ref b1)])) rfl (by rw [hml]; rfl) (Steps.refl _) (argsL := [(.int (p0 + p4)), (.int (p1 + p5))]) (rest := []) (lenOf pd_1 rfl) rfl (by show 2 * 0 + _ ≤ _; exact Nat.le_of_eq rfl) (hb hby at_31) (fun _ _ => ⟨rfl, rfl, (by decide : 1 + 0 ≤ _), (by decide : 4 + 0 ≤ _)⟩)
  dsimp only [Pt.U, Pt.locs, Pt.cells, Pt.slots] at X3 l3 y3 z3 st3 hQ3
  subst l3 y3 z3
  obtain ⟨rfl, rfl, e3⟩ := hQ3
  have N3 := Fr.app N2 (Fr.nil n0)
  refine go (B := T3.setTop (mkF m 34 #[.val (.int p0), .val (.int p1), .val (.int p2), .val (.int p3), .val (.int p4), .val (.int p5), .val (.int (p0 + p4)), .val (.int (p1 + p5)), .val (.ref b1), .unset, .unset] [(.int (f3 (p0 + p4) (p1 + p5) p0 p2 p1 p3))])) (fun _ k => st3.trans k) ?_
  refine go (B := T3.setTop (mkF m 36 #[.val (.int p0), .val (.int p1), .val (.int p2), .val (.int p3), .val (.int p4), .val (.int p5), .val (.int (p0 + p4)), .val (.int (p1 + p5)), .val (.ref b1), .val (.int (f3 (p0 + p4) (p1 + p5) p0 p2 p1 p3)), .unset] [])) (fun _ k => XS.istore X3.here hx rfl (hb hby at_34) rfl (l' := #[.val (.int p0), .val (.int p1), .val (.int p2), .val (.int p3), .val (.int p4), .val (.int p5), .val (.int (p0 + p4)), .val (.int (p1 + p5)), .val (.ref b1), .val (.int (f3 (p0 + p4) (p1 + p5) p0 p2 p1 p3)), .unset]) rfl k) ?_
  refine go (B := T3.setTop (mkF m 38 #[.val (.int p0), .val (.int p1), .val (.int p2), .val (.int p3), .val (.int p4), .val (.int p5), .val (.int (p0 + p4)), .val (.int (p1 + p5)), .val (.ref b1), .val (.int (f3 (p0 + p4) (p1 + p5) p0 p2 p1 p3)), .unset] [(.int (p0 + p4))])) (fun _ k => XS.iload X3.here hx rfl (hb hby at_36) rfl k) ?_
  refine go (B := T3.setTop (mkF m 39 #[.val (.int p0), .val (.int p1), .val (.int p2), .val (.int p3), .val (.int p4), .val (.int p5), .val (.int (p0 + p4)), .val (.int (p1 + p5)), .val (.ref b1), .val (.int (f3 (p0 + p4) (p1 + p5) p0 p2 p1 p3)), .unset] [(.int p0), (.int (p0 + p4))])) (fun _ k => XS.iloadN X3.here hx rfl (hb hby at_38) rfl k) ?_
  refine go (B := T3.setTop (mkF m 40 #[.val (.int p0), .val (.int p1), .val (.int p2), .val (.int p3), .val (.int p4), .val (.int p5), .val (.int (p0 + p4)), .val (.int (p1 + p5)), .val (.ref b1), .val (.int (f3 (p0 + p4) (p1 + p5) p0 p2 p1 p3)), .unset] [(.int p2), (.int p0), (.int (p0 + p4))])) (fun _ k => XS.iloadN X3.here hx rfl (hb hby at_39) rfl k) ?_
  obtain ⟨_, _, ⟨T4, L4, k4, n4⟩, -, X4, ⟨Lc4, hQ4, l4, y4, z4⟩, st4⟩ := Jvm.LawKit.callS X3 hx (y := (⟨"com/example/fenced_widget/fencedwidget/fence/BoundsContainsPinLaw", "inSpan", "(III)Z"⟩ : MethodName)) hown (mvT hZ (hw _ (List.mem_of_getElem? (i := 22) rfl))) (mvT hZ (hw _ (List.mem_of_getElem? (i := 23) rfl))) (mvT hZ (hw _ (List.mem_of_getElem? (i := 24) rfl))) (mvT hZ (hw _ (List.mem_of_getElem? (i := 25) rfl))) (by decide) (backOf (W := 0) (rm4 l Z aw hw [] (p0 + p4) p0 p2 T2.heap n0 Z2 ) hZ (hw _ (List.mem_of_getElem? (i := 25) rfl)) (hw _ (List.mem_of_getElem? (i := 24) rfl)) (by decide) (by decide)) (g := (mkF m 40 #[.val (.int p0), .val (.int p1), .val (.int p2), .val (.int p3), .val (.int p4), .val (.int p5), .val (.int (p0 + p4)), .val (.int (p1 + p5)), .val (.ref b1), .val (.int (f3 (p0 + p4) (p1 + p5) p0 p2 p1 p3)), .unset] [(.int p2), (.int p0), (.int (p0 + p4))])) rfl (by rw [hml]; rfl) (argsL := [(.int (p0 + p4)), (.int p0), (.int p2)]) (rest := []) (lenOf pd_2 rfl) rfl (by show 2 * 0 + _ ≤ _; exact Nat.le_of_eq rfl) (hb hby at_40) (fun _ _ => ⟨rfl, e3, (by decide : 1 + 0 ≤ _), (by decide : 4 + 0 ≤ _)⟩)
  dsimp only [Pt.U, Pt.locs, Pt.cells, Pt.slots] at X4 l4 y4 z4 st4 hQ4
  subst l4 y4 z4
  obtain ⟨rfl, rfl, e4⟩ := hQ4
  have N4 := Fr.app N3 (Fr.nil n0)
  refine go (B := T4.setTop (mkF m 43 #[.val (.int p0), .val (.int p1), .val (.int p2), .val (.int p3), .val (.int p4), .val (.int p5), .val (.int (p0 + p4)), .val (.int (p1 + p5)), .val (.ref b1), .val (.int (f3 (p0 + p4) (p1 + p5) p0 p2 p1 p3)), .unset] [(.int (f4 (p0 + p4) p0 p2))])) (fun _ k => st4 _ k) ?_
  suffices Kj5 : ∀ (T5 : State) (L5 : List Loc), Stand p l e room_1 s m #[(.int p0), (.int p1), (.int p2), (.int p3), (.int p4), (.int p5)] below meth c T5 L5 1 4 → Fr n0 L5 → T5.heap = T2.heap → Go p.tables e below F (T5.setTop (mkF m 61 #[.val (.int p0), .val (.int p1), .val (.int p2), .val (.int p3), .val (.int p4), .val (.int p5), .val (.int (p0 + p4)), .val (.int (p1 + p5)), .val (.ref b1), .val (.int (f3 (p0 + p4) (p1 + p5) p0 p2 p1 p3)), .unset] [(.int (f0_z0 p0 p1 p2 p3 p4 p5))])) by
    by_cases hc6 : (f4 (p0 + p4) p0 p2) = (0 : Int32)
    · refine go (B := T4.setTop (mkF m 60 #[.val (.int p0), .val (.int p1), .val (.int p2), .val (.int p3), .val (.int p4), .val (.int p5), .val (.int (p0 + p4)), .val (.int (p1 + p5)), .val (.ref b1), .val (.int (f3 (p0 + p4) (p1 + p5) p0 p2 p1 p3)), .unset] [])) (fun _ k => XS.ifYes X4.here hx rfl (pc0 := 43) (pc' := 60) rfl (hb hby at_43) rfl ((if0 _ _).trans (teq hc6).1) (by decide) (by decide) k) ?_
      refine go (B := T4.setTop (mkF m 61 #[.val (.int p0), .val (.int p1), .val (.int p2), .val (.int p3), .val (.int p4), .val (.int p5), .val (.int (p0 + p4)), .val (.int (p1 + p5)), .val (.ref b1), .val (.int (f3 (p0 + p4) (p1 + p5) p0 p2 p1 p3)), .unset] [(.int (0 : Int32))])) (fun _ k => XS.iconst X4.here hx rfl (hb hby at_60) k) ?_
      rw [show (f0_z0 p0 p1 p2 p3 p4 p5) = (0 : Int32) from by unfold f0_z0; rw [if_pos hc6]] at Kj5
      exact Kj5 _ _ X4 N4 e4
    · refine go (B := T4.setTop (mkF m 46 #[.val (.int p0), .val (.int p1), .val (.int p2), .val (.int p3), .val (.int p4), .val (.int p5), .val (.int (p0 + p4)), .val (.int (p1 + p5)), .val (.ref b1), .val (.int (f3 (p0 + p4) (p1 + p5) p0 p2 p1 p3)), .unset] [])) (fun _ k => XS.ifNo X4.here hx rfl (hb hby at_43) rfl ((if0 _ _).trans (feq hc6).1) k) ?_
      refine go (B := T4.setTop (mkF m 48 #[.val (.int p0), .val (.int p1), .val (.int p2), .val (.int p3), .val (.int p4), .val (.int p5), .val (.int (p0 + p4)), .val (.int (p1 + p5)), .val (.ref b1), .val (.int (f3 (p0 + p4) (p1 + p5) p0 p2 p1 p3)), .unset] [(.int (p1 + p5))])) (fun _ k => XS.iload X4.here hx rfl (hb hby at_46) rfl k) ?_
      refine go (B := T4.setTop (mkF m 49 #[.val (.int p0), .val (.int p1), .val (.int p2), .val (.int p3), .val (.int p4), .val (.int p5), .val (.int (p0 + p4)), .val (.int (p1 + p5)), .val (.ref b1), .val (.int (f3 (p0 + p4) (p1 + p5) p0 p2 p1 p3)), .unset] [(.int p1), (.int (p1 + p5))])) (fun _ k => XS.iloadN X4.here hx rfl (hb hby at_48) rfl k) ?_
      refine go (B := T4.setTop (mkF m 50 #[.val (.int p0), .val (.int p1), .val (.int p2), .val (.int p3), .val (.int p4), .val (.int p5), .val (.int (p0 + p4)), .val (.int (p1 + p5)), .val (.ref b1), .val (.int (f3 (p0 + p4) (p1 + p5) p0 p2 p1 p3)), .unset] [(.int p3), (.int p1), (.int (p1 + p5))])) (fun _ k => XS.iloadN X4.here hx rfl (hb hby at_49) rfl k) ?_
      obtain ⟨_, _, ⟨T7, L7, k7, n7⟩, -, X7, ⟨Lc7, hQ7, l7, y7, z7⟩, st7⟩ := Jvm.LawKit.callS X4 hx (y := (⟨"com/example/fenced_widget/fencedwidget/fence/BoundsContainsPinLaw", "inSpan", "(III)Z"⟩ : MethodName)) hown (mvT hZ (hw _ (List.mem_of_getElem? (i := 22) rfl))) (mvT hZ (hw _ (List.mem_of_getElem? (i := 23) rfl))) (mvT hZ (hw _ (List.mem_of_getElem? (i := 24) rfl))) (mvT hZ (hw _ (List.mem_of_getElem? (i := 25) rfl))) (by decide) (backOf (W := 0) (rm4 l Z aw hw [] (p1 + p5) p1 p3 T2.heap n0 Z2 ) hZ (hw _ (List.mem_of_getElem? (i := 25) rfl)) (hw _ (List.mem_of_getElem? (i := 24) rfl)) (by decide) (by decide)) (g := (mkF m 50 #[.val (.int p0), .val (.int p1), .val (.int p2), .val (.int p3), .val (.int p4), .val (.int p5), .val (.int (p0 + p4)), .val (.int (p1 + p5)), .val (.ref b1), .val (.int (f3 (p0 + p4) (p1 + p5) p0 p2 p1 p3)), .unset] [(.int p3), (.int p1), (.int (p1 + p5))])) rfl (by rw [hml]; rfl) (argsL := [(.int (p1 + p5)), (.int p1), (.int p3)]) (rest := []) (lenOf pd_2 rfl) rfl (by show 2 * 0 + _ ≤ _; exact Nat.le_of_eq rfl) (hb hby at_50) (fun _ _ => ⟨rfl, e4, (by decide : 1 + 0 ≤ _), (by decide : 4 + 0 ≤ _)⟩)
      dsimp only [Pt.U, Pt.locs, Pt.cells, Pt.slots] at X7 l7 y7 z7 st7 hQ7
      subst l7 y7 z7
      obtain ⟨rfl, rfl, e7⟩ := hQ7
      have N7 := Fr.app N4 (Fr.nil n0)
      refine go (B := T7.setTop (mkF m 53 #[.val (.int p0), .val (.int p1), .val (.int p2), .val (.int p3), .val (.int p4), .val (.int p5), .val (.int (p0 + p4)), .val (.int (p1 + p5)), .val (.ref b1), .val (.int (f3 (p0 + p4) (p1 + p5) p0 p2 p1 p3)), .unset] [(.int (f4 (p1 + p5) p1 p3))])) (fun _ k => st7 _ k) ?_
      by_cases hc8 : (f4 (p1 + p5) p1 p3) = (0 : Int32)
      · refine go (B := T7.setTop (mkF m 60 #[.val (.int p0), .val (.int p1), .val (.int p2), .val (.int p3), .val (.int p4), .val (.int p5), .val (.int (p0 + p4)), .val (.int (p1 + p5)), .val (.ref b1), .val (.int (f3 (p0 + p4) (p1 + p5) p0 p2 p1 p3)), .unset] [])) (fun _ k => XS.ifYes X7.here hx rfl (pc0 := 53) (pc' := 60) rfl (hb hby at_53) rfl ((if0 _ _).trans (teq hc8).1) (by decide) (by decide) k) ?_
        refine go (B := T7.setTop (mkF m 61 #[.val (.int p0), .val (.int p1), .val (.int p2), .val (.int p3), .val (.int p4), .val (.int p5), .val (.int (p0 + p4)), .val (.int (p1 + p5)), .val (.ref b1), .val (.int (f3 (p0 + p4) (p1 + p5) p0 p2 p1 p3)), .unset] [(.int (0 : Int32))])) (fun _ k => XS.iconst X7.here hx rfl (hb hby at_60) k) ?_
        rw [show (f0_z0 p0 p1 p2 p3 p4 p5) = (0 : Int32) from by unfold f0_z0; rw [if_neg hc6, if_pos hc8]] at Kj5
        exact Kj5 _ _ X7 N7 e7
      · refine go (B := T7.setTop (mkF m 56 #[.val (.int p0), .val (.int p1), .val (.int p2), .val (.int p3), .val (.int p4), .val (.int p5), .val (.int (p0 + p4)), .val (.int (p1 + p5)), .val (.ref b1), .val (.int (f3 (p0 + p4) (p1 + p5) p0 p2 p1 p3)), .unset] [])) (fun _ k => XS.ifNo X7.here hx rfl (hb hby at_53) rfl ((if0 _ _).trans (feq hc8).1) k) ?_
        refine go (B := T7.setTop (mkF m 57 #[.val (.int p0), .val (.int p1), .val (.int p2), .val (.int p3), .val (.int p4), .val (.int p5), .val (.int (p0 + p4)), .val (.int (p1 + p5)), .val (.ref b1), .val (.int (f3 (p0 + p4) (p1 + p5) p0 p2 p1 p3)), .unset] [(.int (1 : Int32))])) (fun _ k => XS.iconst X7.here hx rfl (hb hby at_56) k) ?_
        refine go (B := T7.setTop (mkF m 61 #[.val (.int p0), .val (.int p1), .val (.int p2), .val (.int p3), .val (.int p4), .val (.int p5), .val (.int (p0 + p4)), .val (.int (p1 + p5)), .val (.ref b1), .val (.int (f3 (p0 + p4) (p1 + p5) p0 p2 p1 p3)), .unset] [(.int (1 : Int32))])) (fun _ k => XS.goto X7.here hx rfl (pc0 := 57) (pc' := 61) rfl (hb hby at_57) (by decide) (by decide) k) ?_
        rw [show (f0_z0 p0 p1 p2 p3 p4 p5) = (1 : Int32) from by unfold f0_z0; rw [if_neg hc6, if_neg hc8]] at Kj5
        exact Kj5 _ _ X7 N7 e7
  intro T5 L5 X5 N5 e5
  refine go (B := T5.setTop (mkF m 63 #[.val (.int p0), .val (.int p1), .val (.int p2), .val (.int p3), .val (.int p4), .val (.int p5), .val (.int (p0 + p4)), .val (.int (p1 + p5)), .val (.ref b1), .val (.int (f3 (p0 + p4) (p1 + p5) p0 p2 p1 p3)), .val (.int (f0_z0 p0 p1 p2 p3 p4 p5))] [])) (fun _ k => XS.istore X5.here hx rfl (hb hby at_61) rfl (l' := #[.val (.int p0), .val (.int p1), .val (.int p2), .val (.int p3), .val (.int p4), .val (.int p5), .val (.int (p0 + p4)), .val (.int (p1 + p5)), .val (.ref b1), .val (.int (f3 (p0 + p4) (p1 + p5) p0 p2 p1 p3)), .val (.int (f0_z0 p0 p1 p2 p3 p4 p5))]) rfl k) ?_
  refine go (B := T5.setTop (mkF m 65 #[.val (.int p0), .val (.int p1), .val (.int p2), .val (.int p3), .val (.int p4), .val (.int p5), .val (.int (p0 + p4)), .val (.int (p1 + p5)), .val (.ref b1), .val (.int (f3 (p0 + p4) (p1 + p5) p0 p2 p1 p3)), .val (.int (f0_z0 p0 p1 p2 p3 p4 p5))] [(.int (f3 (p0 + p4) (p1 + p5) p0 p2 p1 p3))])) (fun _ k => XS.iload X5.here hx rfl (hb hby at_63) rfl k) ?_
  refine go (B := T5.setTop (mkF m 67 #[.val (.int p0), .val (.int p1), .val (.int p2), .val (.int p3), .val (.int p4), .val (.int p5), .val (.int (p0 + p4)), .val (.int (p1 + p5)), .val (.ref b1), .val (.int (f3 (p0 + p4) (p1 + p5) p0 p2 p1 p3)), .val (.int (f0_z0 p0 p1 p2 p3 p4 p5))] [(.int (f0_z0 p0 p1 p2 p3 p4 p5)), (.int (f3 (p0 + p4) (p1 + p5) p0 p2 p1 p3))])) (fun _ k => XS.iload X5.here hx rfl (hb hby at_65) rfl k) ?_
  by_cases hc9 : (f3 (p0 + p4) (p1 + p5) p0 p2 p1 p3) = (f0_z0 p0 p1 p2 p3 p4 p5)
  · refine go (B := T5.setTop (mkF m 70 #[.val (.int p0), .val (.int p1), .val (.int p2), .val (.int p3), .val (.int p4), .val (.int p5), .val (.int (p0 + p4)), .val (.int (p1 + p5)), .val (.ref b1), .val (.int (f3 (p0 + p4) (p1 + p5) p0 p2 p1 p3)), .val (.int (f0_z0 p0 p1 p2 p3 p4 p5))] [])) (fun _ k => XS.icmpNo X5.here hx rfl (hb hby at_67) rfl (teq hc9).2 k) ?_
    refine go (B := T5.setTop (mkF m 71 #[.val (.int p0), .val (.int p1), .val (.int p2), .val (.int p3), .val (.int p4), .val (.int p5), .val (.int (p0 + p4)), .val (.int (p1 + p5)), .val (.ref b1), .val (.int (f3 (p0 + p4) (p1 + p5) p0 p2 p1 p3)), .val (.int (f0_z0 p0 p1 p2 p3 p4 p5))] [(.int (1 : Int32))])) (fun _ k => XS.iconst X5.here hx rfl (hb hby at_70) k) ?_
    refine go (B := T5.setTop (mkF m 75 #[.val (.int p0), .val (.int p1), .val (.int p2), .val (.int p3), .val (.int p4), .val (.int p5), .val (.int (p0 + p4)), .val (.int (p1 + p5)), .val (.ref b1), .val (.int (f3 (p0 + p4) (p1 + p5) p0 p2 p1 p3)), .val (.int (f0_z0 p0 p1 p2 p3 p4 p5))] [(.int (1 : Int32))])) (fun _ k => XS.goto X5.here hx rfl (pc0 := 71) (pc' := 75) rfl (hb hby at_71) (by decide) (by decide) k) ?_
    have r10 : (f0 p0 p1 p2 p3 p4 p5) = (1 : Int32) := by unfold f0; rw [if_pos hc9]
    exact end_nar X5 hx Bd.notSynchronized (t := .boolean) Bd.returns (by simp) (hb hby at_75) hF e5 (by decide) (by decide) ⟨(congrArg (fun z => some (Value.int z)) (r10.symm.trans (own_law p0 p1 p2 p3 p4 p5))), N5⟩
  · refine go (B := T5.setTop (mkF m 74 #[.val (.int p0), .val (.int p1), .val (.int p2), .val (.int p3), .val (.int p4), .val (.int p5), .val (.int (p0 + p4)), .val (.int (p1 + p5)), .val (.ref b1), .val (.int (f3 (p0 + p4) (p1 + p5) p0 p2 p1 p3)), .val (.int (f0_z0 p0 p1 p2 p3 p4 p5))] [])) (fun _ k => XS.icmpYes X5.here hx rfl (pc0 := 67) (pc' := 74) rfl (hb hby at_67) rfl (feq hc9).2 (by decide) (by decide) k) ?_
    refine go (B := T5.setTop (mkF m 75 #[.val (.int p0), .val (.int p1), .val (.int p2), .val (.int p3), .val (.int p4), .val (.int p5), .val (.int (p0 + p4)), .val (.int (p1 + p5)), .val (.ref b1), .val (.int (f3 (p0 + p4) (p1 + p5) p0 p2 p1 p3)), .val (.int (f0_z0 p0 p1 p2 p3 p4 p5))] [(.int (0 : Int32))])) (fun _ k => XS.iconst X5.here hx rfl (hb hby at_74) k) ?_
    have r11 : (f0 p0 p1 p2 p3 p4 p5) = (0 : Int32) := by unfold f0; rw [if_neg hc9]
    exact end_nar X5 hx Bd.notSynchronized (t := .boolean) Bd.returns (by simp) (hb hby at_75) hF e5 (by decide) (by decide) ⟨(congrArg (fun z => some (Value.int z)) (r11.symm.trans (own_law p0 p1 p2 p3 p4 p5))), N5⟩
set_option maxRecDepth 65536 in
set_option maxHeartbeats 40000000 in
theorem comes_1 {Post : Tables → Env → Array Value → State → Outcome → State → Prop} (hpost : ∀ tb e args s v u, (limb_1_1.after args s (.returned v) u = true ∧ limb_1_2.after args s (.returned v) u = true ∧ True) → FrameEnd s (.returned v) u (Jvm.fieldLocs frame_1_writes args s ++ Jvm.arrayLocs frame_1_arrays args s ++ Jvm.staticLocs frame_1_statics s) 16 128 → Post tb e args s (.returned v) u) :
    ArmFor flags0 classFile x code maxLocals ret World_1 tables_1 room_1 Calls_1 rest_1 Pre_1 Post := by
  intro l hfl _ _ p e ha hc hk s m args below hf hA hF happ hP
  obtain ⟨hcalls, hrest, hpre⟩ := hP
  obtain ⟨-, -, -, hnamed, -, -, -, hat⟩ := (Spec.applies_iff hf).mp happ
  obtain ⟨hg, hn⟩ := and_e (Cond.before_iff.mp (show (Jvm.Cond.and given_1 narrow_1).before args s = true from hpre))
  obtain ⟨gg1, gg2⟩ := and_e hg
  obtain ⟨gg3, gg4⟩ := and_e gg2
  obtain ⟨gg5, gg6⟩ := and_e gg4
  obtain ⟨gg7, gg8⟩ := and_e gg6
  obtain ⟨gg9, gg10⟩ := and_e gg8
  obtain ⟨gg11, gg12⟩ := and_e gg10
  obtain ⟨w0, w1, w2, w3, w4, w5, rfl⟩ : ∃ w0 w1 w2 w3 w4 w5 : Value, args = #[w0, w1, w2, w3, w4, w5] := by
    have hs : args.size = 6 := by simpa [Cond.value, given_1] using gg1
    obtain ⟨L⟩ := args
    match L, hs with
    | [w0, w1, w2, w3, w4, w5], _ => exact ⟨w0, w1, w2, w3, w4, w5, rfl⟩
  have hw := fun d (hd : d ∈ tables_1) => atoms_spec (ws := Jvm.Cond.code x code maxLocals ret :: tables_1) hat d (List.mem_cons_of_mem _ hd)
  have hfit : Fit s := fun {y c} hc i hi => by
    obtain ⟨ha, rfl⟩ := Array.getElem?_eq_some_iff.mp hc
    have q := List.all_eq_true.mp ((Array.all_eq_true_iff_forall_mem.mp hF) _ (Array.getElem_mem ha)) i (List.mem_range.mpr hi)
    simpa [Array.getElem?_eq_getElem hi] using q
  obtain ⟨i0, ei0⟩ := is_v gg3
  obtain rfl : w0 = (.int i0) := Option.some.inj ei0
  obtain ⟨i1, ei1⟩ := is_v gg5
  obtain rfl : w1 = (.int i1) := Option.some.inj ei1
  obtain ⟨i2, ei2⟩ := is_v gg7
  obtain rfl : w2 = (.int i2) := Option.some.inj ei2
  obtain ⟨i3, ei3⟩ := is_v gg9
  obtain rfl : w3 = (.int i3) := Option.some.inj ei3
  obtain ⟨i4, ei4⟩ := is_v gg11
  obtain rfl : w4 = (.int i4) := Option.some.inj ei4
  obtain ⟨i5, ei5⟩ := is_v gg12
  obtain rfl : w5 = (.int i5) := Option.some.inj ei5
  obtain ⟨n, o, h1, h2, h3, _, L, rfl, ⟨rfl, N⟩, hq⟩ := rm0 l s _ hw tables_1 i0 i1 i2 i3 i4 i5 s.heap s.heap.size (Nat.le_refl _)  p e ha hc hk s m _ below hf ((Spec.applies_iff_loose hf).mp happ).1 ⟨rfl, State.Warmed39.refl s, rfl⟩ trivial
  refine ⟨n, _, h1, h2, h3, hpost _ _ _ _ _ _ ⟨Cond.after_iff.mpr rfl, Cond.after_iff.mpr (eq_i res_at (Term.int_eval (1)) rfl), trivial⟩ ⟨hq.1, hq.2.1, (hq.2.2.sift fun y hy => Or.inr (N y hy)).mono (by decide) (by decide)⟩⟩
theorem main_1_1 : Claimed_1_1 := comes_1 fun _ _ _ _ _ _ h hF => ⟨h.1, hF⟩
theorem main_1_2 : Claimed_1_2 := comes_1 fun _ _ _ _ _ _ h hF => ⟨h.2.1, hF⟩
end Jvm.Pilot.@@N@@
namespace Jvm.Pilot.@@N@@
open Jvm Jvm.ClassFile Sem Op Lib Jvm.Free Jvm.Stand Jvm.Pilot.@@N@@.Jvm.D
/-! MADE BY PROGRAM (witnessworld.py) out of the Statement's table words and the real class files: 9 classes; the members and pool entries that the words name. The judged class is class 1, her method 2. -/
namespace start1
open Jvm.ClassFile
def u (s : String) : CpInfo := .utf8 (stringToUtf16 s)
/-- a pool by its gaps: so many unusable entries, then the entry; so many at the end -/
def gap : Nat → List CpInfo → List CpInfo
  | 0, r => r
  | n + 1, r => .unusable :: gap n r
def poolList (es : List (Nat × CpInfo)) (last : Nat) : List CpInfo := es.foldr (fun e r => gap e.1 (e.2 :: r)) (gap last [])
def pool (es : List (Nat × CpInfo)) (last : Nat) : Array CpInfo := ⟨poolList es last⟩
def fileOf (pool : Array CpInfo) (this : Nat) (attrs : Array Attribute := #[]) (ms : Array MethodInfo := #[]) (fl : Nat := 33) (sup : Nat := 0) (ifs : Array Nat := #[]) (fds : Array FieldInfo := #[]) : ClassFile where
  minorVersion := 0
  majorVersion := 65
  constantPool := pool
  accessFlags := fl
  thisClass := this
  superClass := sup
  interfaces := ifs
  fields := fds
  methods := ms
  attributes := attrs
def plain (name : String) (sup : Option ClassId) : Class where
  name := name
  kind := .ordinary
  loader := none
  accessFlags := 33
  super := sup
  interfaces := #[]
  cf := none
  fields := #[]
  methods := #[]
  instanceTypes := #[]
  staticTypes := #[]
  resolved := #[]
  callSites := []
  init := .initialized
  statics := none
  mirror := none

def pool0 : Array CpInfo := pool [(5, u "<init>"), (0, u "()V"), (1, .class_ 10), (1, u "java/lang/Object")] 113

def k0c0 : Code := { maxStack := 0, maxLocals := 1, code := object_method_1_code, exceptionTable := #[], attributes := #[] }
def k0m0 : Method := { name := "<init>", desc := "()V", sig := { parameters := [], returnType := none }, accessFlags := 1, code := some k0c0 }
/-- java/lang/Object -/
def k0 : Class := { plain "java/lang/Object" none with
  accessFlags := 33
  interfaces := #[]
  cf := some (fileOf pool0 8 #[] #[{ accessFlags := 1, nameIndex := 5, descriptorIndex := 6, attributes := #[] }] 33 0 #[] #[])
  fields := #[]
  methods := #[k0m0]
  instanceTypes := #[]
  staticTypes := #[]
  resolved := Array.replicate 124 none
  statics := none }

def pool1 : Array CpInfo := pool [(2, .class_ 4), (1, u "java/lang/Object"), (0, u "<init>"), (0, u "()V"), (0, .class_ 8), (0, u "com/example/fenced_widget/fencedwidget/fence/Bounds"), (0, .methodref 7 10), (0, .nameAndType 5 11), (0, u "(IIII)V"), (0, .methodref 7 13), (0, .nameAndType 14 15), (0, u "contains"), (0, u "(II)Z"), (0, .methodref 17 18), (0, .class_ 19), (0, .nameAndType 20 21), (0, u "com/example/fenced_widget/fencedwidget/fence/BoundsContainsPinLaw"), (0, u "inSpan"), (0, u "(III)Z"), (3, u "law"), (0, u "(IIIIII)Z")] 2

def k1m0 : Method := { name := "<init>", desc := "()V", sig := { parameters := [], returnType := none }, accessFlags := 2, code := none }
def k1c1 : Code := { maxStack := 4, maxLocals := 9, code := method_2_code, exceptionTable := #[], attributes := #[] }
def k1m1 : Method := { name := "inSpan", desc := "(III)Z", sig := { parameters := [.int, .int, .int], returnType := some .boolean }, accessFlags := 10, code := some k1c1 }
def k1c2 : Code := { maxStack := 6, maxLocals := 11, code := code, exceptionTable := #[], attributes := #[] }
def k1m2 : Method := { name := "law", desc := "(IIIIII)Z", sig := { parameters := [.int, .int, .int, .int, .int, .int], returnType := some .boolean }, accessFlags := 9, code := some k1c2 }
/-- com/example/fenced_widget/fencedwidget/fence/BoundsContainsPinLaw -/
def k1 : Class := { plain "com/example/fenced_widget/fencedwidget/fence/BoundsContainsPinLaw" (some 0) with
  accessFlags := 49
  interfaces := #[]
  cf := some (fileOf pool1 17 #[] #[{ accessFlags := 2, nameIndex := 5, descriptorIndex := 6, attributes := #[] }, { accessFlags := 10, nameIndex := 20, descriptorIndex := 21, attributes := #[] }, { accessFlags := 9, nameIndex := 25, descriptorIndex := 26, attributes := #[] }] 49 2 #[] #[])
  fields := #[]
  methods := #[k1m0, k1m1, k1m2]
  instanceTypes := #[]
  staticTypes := #[]
  resolved := Array.replicate 29 none
  statics := none }

def pool2 : Array CpInfo := pool [(1, .methodref 2 3), (0, .class_ 4), (0, .nameAndType 5 6), (0, u "java/lang/Object"), (0, u "<init>"), (0, u "()V"), (0, .fieldref 8 9), (0, .class_ 10), (0, .nameAndType 11 12), (0, u "com/example/fenced_widget/fencedwidget/fence/Bounds"), (0, u "x"), (0, u "I"), (0, .fieldref 8 14), (0, .nameAndType 15 12), (0, u "y"), (0, .fieldref 8 17), (0, .nameAndType 18 12), (0, u "width"), (0, .fieldref 8 20), (0, .nameAndType 21 12), (0, u "height"), (14, u "(IIII)V"), (4, u "contains"), (0, u "(II)Z")] 18

def k2c0 : Code := { maxStack := 2, maxLocals := 5, code := prog_3_method_1_code, exceptionTable := #[], attributes := #[] }
def k2m0 : Method := { name := "<init>", desc := "(IIII)V", sig := { parameters := [.int, .int, .int, .int], returnType := none }, accessFlags := 0, code := some k2c0 }
def k2c1 : Code := { maxStack := 4, maxLocals := 3, code := prog_3_method_2_code, exceptionTable := #[], attributes := #[] }
def k2m1 : Method := { name := "contains", desc := "(II)Z", sig := { parameters := [.int, .int], returnType := some .boolean }, accessFlags := 0, code := some k2c1 }
/-- com/example/fenced_widget/fencedwidget/fence/Bounds -/
def k2 : Class := { plain "com/example/fenced_widget/fencedwidget/fence/Bounds" (some 0) with
  accessFlags := 48
  interfaces := #[]
  cf := some (fileOf pool2 8 #[] #[{ accessFlags := 0, nameIndex := 5, descriptorIndex := 36, attributes := #[] }, { accessFlags := 0, nameIndex := 41, descriptorIndex := 42, attributes := #[] }] 48 2 #[] #[{ accessFlags := 18, nameIndex := 11, descriptorIndex := 12, attributes := #[] }, { accessFlags := 18, nameIndex := 15, descriptorIndex := 12, attributes := #[] }, { accessFlags := 18, nameIndex := 18, descriptorIndex := 12, attributes := #[] }, { accessFlags := 18, nameIndex := 21, descriptorIndex := 12, attributes := #[] }])
  fields := #[{ name := "x", type := .int, accessFlags := 18, slot := 0, constantValue := 0 }, { name := "y", type := .int, accessFlags := 18, slot := 1, constantValue := 0 }, { name := "width", type := .int, accessFlags := 18, slot := 2, constantValue := 0 }, { name := "height", type := .int, accessFlags := 18, slot := 3, constantValue := 0 }]
  methods := #[k2m0, k2m1]
  instanceTypes := #[.int, .int, .int, .int]
  staticTypes := #[]
  resolved := Array.replicate 61 none
  statics := none }

def pool3 : Array CpInfo := pool [(1, u "java/lang/Cloneable"), (0, .class_ 1), (0, u "java/lang/Object"), (0, .class_ 3)] 3

/-- java/lang/Cloneable -/
def k3 : Class := { plain "java/lang/Cloneable" (some 0) with
  accessFlags := 1537
  interfaces := #[]
  cf := some (fileOf pool3 2 #[] #[] 1537 4 #[] #[])
  fields := #[]
  methods := #[]
  instanceTypes := #[]
  staticTypes := #[]
  resolved := Array.replicate 8 none
  statics := none }

def pool4 : Array CpInfo := pool [(1, u "java/io/Serializable"), (0, .class_ 1), (0, u "java/lang/Object"), (0, .class_ 3)] 3

/-- java/io/Serializable -/
def k4 : Class := { plain "java/io/Serializable" (some 0) with
  accessFlags := 1537
  interfaces := #[]
  cf := some (fileOf pool4 2 #[] #[] 1537 4 #[] #[])
  fields := #[]
  methods := #[]
  instanceTypes := #[]
  staticTypes := #[]
  resolved := Array.replicate 8 none
  statics := none }

/-- the primitive byte -/
def k5 : Class := { plain "byte" none with kind := .primitive 'B', accessFlags := 0x411 }
/-- [B -/
def k6 : Class := { plain "[B" (some 0) with kind := .array 5 .byte, interfaces := #[3, 4], accessFlags := 1041 }

/-- the primitive int -/
def k7 : Class := { plain "int" none with kind := .primitive 'I', accessFlags := 0x411 }
/-- [I -/
def k8 : Class := { plain "[I" (some 0) with kind := .array 7 .int, interfaces := #[3, 4], accessFlags := 1041 }

def heap : Heap := #[]
def classes : Array Class := #[k0, k1, k2, k3, k4, k5, k6, k7, k8]
def interned : List (Array UInt16 × Addr) := []
def slotsUsed : Nat := 0
def theMethod : MethodId := ⟨1, 2⟩
def args0 : Array Value := #[.int 5, .int 5, .int 5, .int 5, .int 5, .int 5]
def aboutOver (below : List Frame) : State where
  vm := { classes := classes, interned := interned.toArray }
  heap := heap
  slotsUsed := slotsUsed
  threads := #[{ frames := .invoking theMethod args0 :: below }]
def below0 : List Frame := [.native { method := ⟨0, 0⟩, args := #[] }]
def about1 : State := aboutOver below0
def p0 : Program := .bare "" "" ""
def e0 : Env := launch0.env 0 0 0
theorem w_frames : about1.frames = Frame.invoking theMethod args0 :: below0 := rfl
set_option maxRecDepth 65536 in
theorem w_args : argsFit about1.vm theMethod args0 = true := by decide +kernel
set_option maxRecDepth 65536 in
theorem w_heap : heapFits about1 = true := by decide +kernel
set_option maxRecDepth 65536 in
theorem w_runnable : about1.curStatus? = some .runnable := by decide +kernel
set_option maxRecDepth 65536 in
theorem w_alone : about1.alone = true := by decide +kernel
set_option maxRecDepth 65536 in
theorem w_named : about1.methodNamed? x = some theMethod := by decide +kernel
set_option maxRecDepth 65536 in
theorem w_hears : about1.hears theMethod below0 = true := by decide +kernel
set_option maxRecDepth 65536 in
theorem w_ripe : about1.ripe theMethod args0 below0 = true := by decide +kernel
theorem w_running : about1.status = .running := rfl
set_option maxRecDepth 65536 in
theorem w_room : about1.hasRoom e0.platform room_1 = true :=
  launch0.hasRoom_least _ room_1 (by decide +kernel) (by decide +kernel) (by decide +kernel) (by decide +kernel) (by decide +kernel) (by decide +kernel)
theorem allAtoms_all (ts : List Jvm.Cond) (a : Array Jvm.Value) (st : Jvm.State) : (allAtoms ts).before a st = ts.all (fun c => c.before a st) := by
  induction ts with
  | nil => rfl
  | cons c t ih =>
    show (Jvm.Cond.and c (allAtoms t)).before a st = _
    rw [Jvm.Cond.before_and, ih, List.all_cons]
def words1 : List Jvm.Cond := Jvm.Cond.code x code maxLocals ret :: tables_1
/-- a 'code' word, met by the world's own term for the bytes: nothing is compared byte by byte -/
theorem code_word {y : MethodName} {bytes : ByteArray} {mx : Nat} {rt : Option FieldType} {a : Array Value} {s : State} {m : MethodId} {meth : Method} {c : Code} (h1 : s.methodNamed? y = some m) (h2 : s.vm.method? m = some meth) (h3 : meth.code = some c) (h4 : c.code = bytes)
    (h5 : (c.maxLocals == mx && c.exceptionTable.isEmpty && decide (c.maxStack ≤ mostOperands) && decide (meth.sig.returnType = rt) && !meth.locks && decide (parseMethodDescriptor y.desc = some meth.sig)) = true) : (Jvm.Cond.code y bytes mx rt).before a s = true := by
  simp only [Bool.and_eq_true, beq_iff_eq, Bool.not_eq_true', decide_eq_true_eq] at h5
  obtain ⟨⟨⟨⟨⟨g1, g2⟩, g3⟩, g4⟩, g5⟩, g6⟩ := h5
  simp [Cond.before, Cond.holds, Cond.value, h1, h2, h3, h4, g1, g2, g3, g4, g5, g6]
def isCode : Jvm.Cond → Bool
  | .code _ _ _ _ => true
  | _ => false
theorem all_split {L : List Jvm.Cond} {P : Jvm.Cond → Bool} (h1 : L.all (fun c => isCode c || P c) = true) (h2 : ∀ c ∈ L.filter isCode, P c = true) : L.all P = true := by
  refine List.all_eq_true.mpr fun c hc => ?_
  have h := List.all_eq_true.mp h1 c hc
  rcases Bool.eq_false_or_eq_true (isCode c) with hi | hi
  · exact h2 c (List.mem_filter.mpr ⟨hc, hi⟩)
  · simpa [hi] using h
set_option maxRecDepth 65536 in
theorem w_c0 : (Jvm.Cond.code x code maxLocals ret).before args0 about1 = true := code_word (m := ⟨1, 2⟩) (meth := k1m2) (c := k1c2) (by decide +kernel) rfl rfl rfl (by decide +kernel)
set_option maxRecDepth 65536 in
theorem w_c1 : (Jvm.Cond.code ({ cls := "com/example/fenced_widget/fencedwidget/fence/Bounds", name := "<init>", desc := "(IIII)V" } : Jvm.MethodName) prog_3_method_1_code (5 : Nat) (Option.none : Option Jvm.ClassFile.FieldType)).before args0 about1 = true := code_word (m := ⟨2, 0⟩) (meth := k2m0) (c := k2c0) (by decide +kernel) rfl rfl rfl (by decide +kernel)
set_option maxRecDepth 65536 in
theorem w_c2 : (Jvm.Cond.code ({ cls := "java/lang/Object", name := "<init>", desc := "()V" } : Jvm.MethodName) object_method_1_code (1 : Nat) (Option.none : Option Jvm.ClassFile.FieldType)).before args0 about1 = true := code_word (m := ⟨0, 0⟩) (meth := k0m0) (c := k0c0) (by decide +kernel) rfl rfl rfl (by decide +kernel)
set_option maxRecDepth 65536 in
theorem w_c3 : (Jvm.Cond.code ({ cls := "com/example/fenced_widget/fencedwidget/fence/Bounds", name := "contains", desc := "(II)Z" } : Jvm.MethodName) prog_3_method_2_code (3 : Nat) (Option.some Jvm.ClassFile.FieldType.boolean)).before args0 about1 = true := code_word (m := ⟨2, 1⟩) (meth := k2m1) (c := k2c1) (by decide +kernel) rfl rfl rfl (by decide +kernel)
set_option maxRecDepth 65536 in
theorem w_c4 : (Jvm.Cond.code ({ cls := "com/example/fenced_widget/fencedwidget/fence/BoundsContainsPinLaw", name := "inSpan", desc := "(III)Z" } : Jvm.MethodName) method_2_code (9 : Nat) (Option.some Jvm.ClassFile.FieldType.boolean)).before args0 about1 = true := code_word (m := ⟨1, 1⟩) (meth := k1m1) (c := k1c1) (by decide +kernel) rfl rfl rfl (by decide +kernel)
def codes1 : List Jvm.Cond := [Jvm.Cond.code x code maxLocals ret, Jvm.Cond.code ({ cls := "com/example/fenced_widget/fencedwidget/fence/Bounds", name := "<init>", desc := "(IIII)V" } : Jvm.MethodName) prog_3_method_1_code (5 : Nat) (Option.none : Option Jvm.ClassFile.FieldType), Jvm.Cond.code ({ cls := "java/lang/Object", name := "<init>", desc := "()V" } : Jvm.MethodName) object_method_1_code (1 : Nat) (Option.none : Option Jvm.ClassFile.FieldType), Jvm.Cond.code ({ cls := "com/example/fenced_widget/fencedwidget/fence/Bounds", name := "contains", desc := "(II)Z" } : Jvm.MethodName) prog_3_method_2_code (3 : Nat) (Option.some Jvm.ClassFile.FieldType.boolean), Jvm.Cond.code ({ cls := "com/example/fenced_widget/fencedwidget/fence/BoundsContainsPinLaw", name := "inSpan", desc := "(III)Z" } : Jvm.MethodName) method_2_code (9 : Nat) (Option.some Jvm.ClassFile.FieldType.boolean)]
set_option maxRecDepth 65536 in
theorem codes_eq : words1.filter isCode = codes1 := rfl
theorem w_codes : ∀ c ∈ words1.filter isCode, c.before args0 about1 = true := by
  rw [codes_eq]
  intro c hc
  simp only [codes1, List.mem_cons, List.not_mem_nil, or_false] at hc
  rcases hc with rfl | rfl | rfl | rfl | rfl
  · exact w_c0
  · exact w_c1
  · exact w_c2
  · exact w_c3
  · exact w_c4
set_option maxRecDepth 65536 in
theorem w_t1 : (words1.take 24).all (fun c => isCode c || c.before args0 about1) = true := by decide +kernel
set_option maxRecDepth 65536 in
theorem w_t2 : (words1.drop 24).all (fun c => isCode c || c.before args0 about1) = true := by decide +kernel
theorem w_tables : (allAtoms (Jvm.Cond.code x code maxLocals ret :: tables_1)).before args0 about1 = true := by
  rw [allAtoms_all]
  show words1.all (fun c => c.before args0 about1) = true
  refine all_split ?_ w_codes
  rw [← List.take_append_drop 24 words1, List.all_append, w_t1, w_t2]
  rfl
set_option maxRecDepth 65536 in
theorem w_case : (Jvm.Cond.and given_1 narrow_1).before args0 about1 = true := by decide +kernel
theorem w_applies : (headSpec (Jvm.Cond.code x code maxLocals ret :: tables_1) room_1).applies x e0.platform about1 = true :=
  (Spec.applies_iff w_frames).mpr ⟨w_running, w_runnable, w_alone, w_named, w_hears, w_ripe, w_room, w_tables⟩
theorem atStart : AtStart classFile x code maxLocals ret World_1 tables_1 room_1 Calls_1 rest_1 Pre_1 launch0 p0 e0 about1 theMethod args0 below0 :=
  ⟨lists_1, trivial, launch0.admits_env _ _ _, launch0.least_env, fairChoices_fair.cas, fairChoices_fair.clock, w_frames, w_args, w_heap, w_applies, trivial, trivial, w_case⟩
end start1
theorem witness_1 : WitnessClaimed_1 := ⟨start1.p0, start1.e0, start1.about1, start1.theMethod, start1.args0, start1.below0, start1.atStart⟩
end Jvm.Pilot.@@N@@
