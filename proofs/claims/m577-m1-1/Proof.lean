import JvmDerived
import JvmDerived.Pilot.@@N@@Statement
import JvmDerived.Pilot.@@N@@Code
set_option linter.unusedVariables false
set_option linter.unusedSimpArgs false
namespace Jvm.Pilot.@@N@@
open Jvm Jvm.ClassFile Sem Op Lib Jvm.Free Jvm.Stand Jvm.LawKit Jvm.RoadKit Bundle Jvm.Pilot.@@N@@.Jvm.D
/-! own: the walk's goal, read backwards -/
def Go (tb : Tables) (e : Env) (below : List Frame) (F : State → Outcome → Prop) (A : State) : Prop := ∃ t o, Steps tb e below A t ∧ F t o
def Fin (below : List Frame) (s : State) (Q : Option Value → Heap → List Loc → Prop) (k n : Nat) (t : State) (o : Outcome) : Prop := t.status = .running ∧ Ended t below o ∧ ∃ v L, o = .returned v ∧ Q v t.heap L ∧ FrameEnd s o t L k n
theorem go {tb : Tables} {e : Env} {below : List Frame} {F : State → Outcome → Prop} {A B : State} (st : ∀ t, Steps tb e below B t → Steps tb e below A t) (h : Go tb e below F B) : Go tb e below F A := by
  obtain ⟨t, o, h1, h2⟩ := h
  exact ⟨t, o, st t h1, h2⟩
theorem go_in {p : Program} {e : Env} {below : List Frame} {s s₁ : State} {Q : Option Value → Heap → List Loc → Prop} {k n : Nat} {A : State} (h : ∀ F : State → Outcome → Prop, (∀ t o, Fin below s Q k n t o → F t o) → Go p.tables e below F A) :
    ∃ t o, Steps p.tables e below A t ∧ t.status = .running ∧ Ended t below o ∧ ∃ v L, o = .returned v ∧ Q v t.heap L ∧ FrameEnd s o t L k n := by
  obtain ⟨t, o, h1, h2, h3, h4⟩ := h (Fin below s Q k n) (fun _ _ h => h)
  exact ⟨t, o, h1, h2, h3, h4⟩
theorem own_fld {s : State} {args : Array Value} {t : Term} {C n d : String} {a : Addr} {k : Int32} (ev : t.eval args s none [] s = some (.ref a)) (h : (Cond.eq (.field t C n d) (.int k)).value args s none s [] = some true) : Fld s s.heap a C n d (.int k) := Fld.start ((fld_at ev).symm.trans (eqv_i (Term.int_eval k) h))
def NSt (h : Heap) (x : Addr) : Prop := ∃ c : Cell, h[x]? = some c ∧ c.vm.isStatics = false
theorem own_sta_keep {Z : State} {h h' : Heap} {C n d : String} {v : Value} {ws : List Addr} (F : Sta Z h C n d v) (K : Keep h h' ws) (q : ∀ x ∈ ws, NSt h x) : Sta Z h' C n d v := by
  obtain ⟨cf, i, k, f, st, cell, h1, h2, h3, h4, h5, h6, h7⟩ := F
  refine ⟨cf, i, k, f, st, cell, h1, h2, h3, h4, K.2.1 _ _ h5 (fun z => ?_), h6, h7⟩
  obtain ⟨c, g1, g2⟩ := q _ z
  cases h5.symm.trans g1
  rw [h6] at g2; cases g2
end Jvm.Pilot.@@N@@
namespace Jvm.RoadKit
theorem Exa.ns {Z : State} {h : Heap} {a : Addr} {C : String} (F : Exa Z h a C) : Jvm.Pilot.@@N@@.NSt h a := by
  obtain ⟨c, _, h1, -, -, h4, -⟩ := F; exact ⟨c, h1, h4⟩
theorem Arv.ns {Z : State} {h : Heap} {a : Addr} {k : ClassId} {ty : ClassFile.FieldType} {z : Int32} {vs : List Value} {dv : Value} (F : Arv Z h a k ty z vs dv) : Jvm.Pilot.@@N@@.NSt h a := by
  obtain ⟨c, A, -⟩ := F; exact ⟨c, A.1, A.plain⟩
end Jvm.RoadKit
namespace Jvm.Pilot.@@N@@
open Jvm Jvm.ClassFile Sem Op Lib Jvm.Free Jvm.Stand Jvm.LawKit Jvm.RoadKit Bundle Jvm.Pilot.@@N@@.Jvm.D
theorem own_no {Z : State} {aw : Array Value} {X Y : String} {t : List String} {n : Nat} (hwc : ∀ w ∈ Cond.chainWords (X :: t), w.before aw Z = true) (wi : (Cond.instantiable Y n).before aw Z = true) (hn : Y ∉ X :: t) : ∃ c t, Z.vm.findClass X = some c ∧ Z.vm.findClass Y = some t ∧ Z.vm.assignable c t = false := by
  obtain ⟨cy, ky, hy1, hy2, hy3, hy4, -⟩ := Cond.instantiable_spec wi
  obtain ⟨cx, k, hx, -⟩ := Cond.chain_head hwc
  exact ⟨cx, cy, hx, hy1, Vm.notAssignable_of_chain hx hy1 hy2 hy3 (Bool.or_eq_false_iff.mp hy4).1 hwc hn⟩
theorem own_selp {Z s : State} {aw args : Array Value} {y : MethodName} {n : Nat} (hZ : Z.Warmed39 s.vm) (wi : (Cond.instantiable y.cls n).before aw Z = true) (wp : (Cond.privateMethod y).before aw Z = true) (wm : (Cond.instanceMethod y).before aw Z = true) (hy : y.cls ≠ "java/lang/invoke/MethodHandle" ∧ y.cls ≠ "java/lang/invoke/VarHandle") : (Cond.selects y.cls y y).before args s = true := by
  obtain ⟨c, k, h1, h2, -, h4, -⟩ := Cond.instantiable_spec (mvT (args := args) hZ wi)
  exact selects_self_of_private h1 h2 (Bool.or_eq_false_iff.mp h4).1 (Cond.privateMethod_at (mvP hZ wp (args := args))) (mvT hZ wm) hy
section Ends
variable {p : Program} {l : Launch} {e : Env} {R : Room} {s : State} {m : MethodId} {args : Array Value} {below : List Frame} {meth : Method} {c : Code} {T : State} {locs : List Loc} {cells slots : Nat} {F : State → Outcome → Prop} {Q : Option Value → Heap → List Loc → Prop} {k n : Nat} {pc : Nat} {Ls : Array Slot} {rest : List Value} {h : Heap}
/-- the end of a walk: what is returned, what the heap says -/
theorem go_end (X : Stand p l e R s m args below meth c T locs cells slots) (hlk : meth.locks = false) (hF : ∀ t o, Fin below s Q k n t o → F t o) (eT : T.heap = h) (hk : cells ≤ k) (hn : slots ≤ n) {v : Option Value} (hv : meth.sig.returnType = none → v = none) (hQ : Q v h locs) {A : State}
    (hs : ∀ fs, (∀ (f : JFrame) (acts : List Action), f.method = m → f.locked = none → f.entered = [] → (doReturn e (T.setTop f) acts v).1 = T.setFrames fs) → Steps p.tables e below A (T.setFrames fs)) : Go p.tables e below F A := by
  obtain ⟨fs, hr, hrun, hended, hW, hsame⟩ := X.leave (v := v) hv hlk
  subst eT
  exact ⟨_, _, hs fs hr, hF _ _ ⟨hrun, hended, _, _, rfl, hQ, ⟨_, rfl⟩, hW, hsame.mono hk hn⟩⟩
theorem end_void (X : Stand p l e R s m args below meth c T locs cells slots) (hx : p.tables.exec = Jvm.exec) (hlk : meth.locks = false) (hret : meth.sig.returnType = none) (hd : decode c.code pc = .ok (.return_, 1)) (hF : ∀ t o, Fin below s Q k n t o → F t o) (eT : T.heap = h) (hk : cells ≤ k) (hn : slots ≤ n) (hQ : Q none h locs) : Go p.tables e below F (T.setTop (mkF m pc Ls [])) :=
  go_end X hlk hF eT hk hn (fun _ => rfl) hQ fun fs hr => X.returnOut hx hret hd hr
theorem end_nar {z : Int32} {t : FieldType} (X : Stand p l e R s m args below meth c T locs cells slots) (hx : p.tables.exec = Jvm.exec) (hlk : meth.locks = false) (hret : meth.sig.returnType = some t) (ht : t = .boolean ∨ t = .byte ∨ t = .char ∨ t = .short) (hd : decode c.code pc = .ok (.ireturn, 1)) (hF : ∀ t o, Fin below s Q k n t o → F t o) (eT : T.heap = h) (hk : cells ≤ k) (hn : slots ≤ n) (hQ : Q (some (.int (nar t z))) h locs) : Go p.tables e below F (T.setTop (mkF m pc Ls (.int z :: rest))) :=
  go_end X hlk hF eT hk hn (fun h => by rw [hret] at h; cases h) hQ fun fs hr => retN X hx hret ht hd hr
theorem end_int {z : Int32} (X : Stand p l e R s m args below meth c T locs cells slots) (hx : p.tables.exec = Jvm.exec) (hlk : meth.locks = false) (hret : meth.sig.returnType = some .int) (hd : decode c.code pc = .ok (.ireturn, 1)) (hF : ∀ t o, Fin below s Q k n t o → F t o) (eT : T.heap = h) (hk : cells ≤ k) (hn : slots ≤ n) (hQ : Q (some (.int z)) h locs) : Go p.tables e below F (T.setTop (mkF m pc Ls (.int z :: rest))) :=
  go_end X hlk hF eT hk hn (fun h => by rw [hret] at h; cases h) hQ fun fs hr => retOut X hx hret rfl (Or.inl ⟨rfl, Or.inl rfl, _, rfl⟩) hd hr
theorem end_long {z : Int64} (X : Stand p l e R s m args below meth c T locs cells slots) (hx : p.tables.exec = Jvm.exec) (hlk : meth.locks = false) (hret : meth.sig.returnType = some .long) (hd : decode c.code pc = .ok (.lreturn, 1)) (hF : ∀ t o, Fin below s Q k n t o → F t o) (eT : T.heap = h) (hk : cells ≤ k) (hn : slots ≤ n) (hQ : Q (some (.long z)) h locs) : Go p.tables e below F (T.setTop (mkF m pc Ls (.long z :: rest))) :=
  go_end X hlk hF eT hk hn (fun h => by rw [hret] at h; cases h) hQ fun fs hr => retOut X hx hret rfl (Or.inr (Or.inl ⟨rfl, rfl, _, rfl⟩)) hd hr
theorem end_ref {w : Value} {t : FieldType} (X : Stand p l e R s m args below meth c T locs cells slots) (hx : p.tables.exec = Jvm.exec) (hlk : meth.locks = false) (hret : meth.sig.returnType = some t) (ht : t.isReference = true) (hw : w.isRef = true) (hnr : narrow t w = w) (hd : decode c.code pc = .ok (.areturn, 1)) (hF : ∀ t o, Fin below s Q k n t o → F t o) (eT : T.heap = h) (hk : cells ≤ k) (hn : slots ≤ n) (hQ : Q (some w) h locs) : Go p.tables e below F (T.setTop (mkF m pc Ls (w :: rest))) :=
  go_end X hlk hF eT hk hn (fun h => by rw [hret] at h; cases h) hQ fun fs hr => retOut X hx hret hnr (Or.inr (Or.inr (Or.inr (Or.inr ⟨rfl, ht, hw⟩)))) hd hr
end Ends
theorem d2_0 : decode jdk_29_method_65_code 0 = .ok (.iload_n 0, 1) := by decide +kernel
theorem d2_1 : decode jdk_29_method_65_code 1 = .ok (.iload_n 1, 1) := by decide +kernel
theorem d2_2 : decode jdk_29_method_65_code 2 = .ok (.if_icmp .lt 7, 3) := by decide +kernel
theorem d2_5 : decode jdk_29_method_65_code 5 = .ok (.iload_n 0, 1) := by decide +kernel
theorem d2_6 : decode jdk_29_method_65_code 6 = .ok (.goto 4, 3) := by decide +kernel
theorem d2_9 : decode jdk_29_method_65_code 9 = .ok (.iload_n 1, 1) := by decide +kernel
theorem d2_10 : decode jdk_29_method_65_code 10 = .ok (.ireturn, 1) := by decide +kernel
theorem ef_2 (m : MethodId) (p0 : Int32) (p1 : Int32) : entryFrame m #[(.int p0), (.int p1)] 2 = mkF m 0 #[.val (.int p0), .val (.int p1)] [] := by first | (simp [entryFrame, mkF, argsToLocals, Value.category]; done) | rfl
def f2 (p0 : Int32) (p1 : Int32) : Int32 := if p0 < p1 then p1 else p0
abbrev room2 : Room := { frames := 0, cells := 0, slots := 0, locals := 0 }
def Q2 (Z : State) (p0 : Int32) (p1 : Int32) (h0 : Heap) (n0 : Nat) (v : Option Value) (h : Heap) (L : List Loc) : Prop := v = some (.int (f2 p0 p1)) ∧ L = [] ∧ h = h0
set_option maxRecDepth 65536 in
set_option maxHeartbeats 40000000 in
theorem rm2 (l : Launch) (Z : State) (aw : Array Value) (hw : ∀ d ∈ tables_1, d.before aw Z = true) (ws : List Jvm.Cond) (p0 : Int32) (p1 : Int32) (h0 : Heap) (n0 : Nat) (Z0 : n0 ≤ h0.size) :
    MetFree l (⟨"java/lang/Math", "max", "(II)I"⟩ : MethodName) (head1 (Jvm.Cond.code (⟨"java/lang/Math", "max", "(II)I"⟩ : MethodName) jdk_29_method_65_code 2 (some .int) :: ws) room2) (fun a U => a = #[(.int p0), (.int p1)] ∧ Z.Warmed39 U.vm ∧ U.heap = h0) (fun _ _ _ _ _ => True) (fun _ U o U' => ∃ v L, o = .returned v ∧ Q2 Z p0 p1 h0 n0 v U'.heap L ∧ FrameEnd U o U' L room2.cells room2.slots) := by
  refine MetFree.of_bodySF (Jvm.Free.JP.mathPlain rfl (by decide +kernel)) hisR ?_
  intro p e s m args below meth c s₁ Bd hml0 hP hK
  obtain ⟨rfl, hZ, hh⟩ := hP
  have hx := Bd.exec
  have hby := Bd.bytes
  have hml : c.maxLocals = 2 := hml0
  have hown : s.vm.findClass "java/lang/Math" = some m.cls := findClass_of_methodNamed Bd.named
  have hnm := (name_of_methodNamed Bd.named Bd.method).1
  have X0 : Stand p l e room2 s m #[(.int p0), (.int p1)] below meth c s₁ [] 0 0 := Stand.of_body Bd
  have e0 : s₁.heap = h0 := by rw [← hh, Bd.state]; rfl
  have N0 := Fr.nil n0
  rw [ef_2 m p0 p1]
  refine go_in (s₁ := s₁) (Q := Q2 Z p0 p1 h0 n0) fun F hF => ?_
  refine go (B := s₁.setTop (mkF m 1 #[.val (.int p0), .val (.int p1)] [(.int p0)])) (fun _ k => XS.iloadN X0.here hx rfl (hb hby d2_0) rfl k) ?_
  refine go (B := s₁.setTop (mkF m 2 #[.val (.int p0), .val (.int p1)] [(.int p1), (.int p0)])) (fun _ k => XS.iloadN X0.here hx rfl (hb hby d2_1) rfl k) ?_
  by_cases hc1 : p0 < p1
  · refine go (B := s₁.setTop (mkF m 9 #[.val (.int p0), .val (.int p1)] [])) (fun _ k => XS.icmpYes X0.here hx rfl (pc0 := 2) (pc' := 9) rfl (hb hby d2_2) rfl (tlt hc1).1 (by decide) (by decide) k) ?_
    refine go (B := s₁.setTop (mkF m 10 #[.val (.int p0), .val (.int p1)] [(.int p1)])) (fun _ k => XS.iloadN X0.here hx rfl (hb hby d2_9) rfl k) ?_
    have r2 : (f2 p0 p1) = p1 := by unfold f2; rw [if_pos hc1]
    exact end_int X0 hx Bd.notSynchronized Bd.returns (hb hby d2_10) hF e0 (by decide) (by decide) ⟨(congrArg (fun z => some (Value.int z)) r2.symm), rfl, rfl⟩
  · refine go (B := s₁.setTop (mkF m 5 #[.val (.int p0), .val (.int p1)] [])) (fun _ k => XS.icmpNo X0.here hx rfl (hb hby d2_2) rfl (flt hc1).1 k) ?_
    refine go (B := s₁.setTop (mkF m 6 #[.val (.int p0), .val (.int p1)] [(.int p0)])) (fun _ k => XS.iloadN X0.here hx rfl (hb hby d2_5) rfl k) ?_
    refine go (B := s₁.setTop (mkF m 10 #[.val (.int p0), .val (.int p1)] [(.int p0)])) (fun _ k => XS.goto X0.here hx rfl (pc0 := 6) (pc' := 10) rfl (hb hby d2_6) (by decide) (by decide) k) ?_
    have r3 : (f2 p0 p1) = p0 := by unfold f2; rw [if_neg hc1]
    exact end_int X0 hx Bd.notSynchronized Bd.returns (hb hby d2_10) hF e0 (by decide) (by decide) ⟨(congrArg (fun z => some (Value.int z)) r3.symm), rfl, rfl⟩
theorem pd_0 : parseMethodDescriptor "(II)I" = some ⟨[.int, .int], some .int⟩ := by decide +kernel
theorem d1_0 : decode method_2_code 0 = .ok (.iconst 1, 1) := by decide +kernel
theorem d1_1 : decode method_2_code 1 = .ok (.iload_n 0, 1) := by decide +kernel
theorem d1_2 : decode method_2_code 2 = .ok (.ldc 7, 2) := by decide +kernel
theorem d1_4 : decode method_2_code 4 = .ok (.iand, 1) := by decide +kernel
theorem d1_5 : decode method_2_code 5 = .ok (.invokestatic 8, 3) := by decide +kernel
theorem d1_8 : decode method_2_code 8 = .ok (.ireturn, 1) := by decide +kernel
theorem pn_1 : plainName "com/example/fenced_widget/fencedwidget/fence/BoundsOverlapsPinLaw" = true := by first | (simp [plainName, overriddenIn]; done) | decide +kernel
theorem ef_1 (m : MethodId) (p0 : Int32) : entryFrame m #[(.int p0)] 1 = mkF m 0 #[.val (.int p0)] [] := by first | (simp [entryFrame, mkF, argsToLocals, Value.category]; done) | rfl
def f1 (p0 : Int32) : Int32 := (f2 (1 : Int32) (p0 &&& (2147483647 : Int32)))
abbrev room1 : Room := { frames := 1, cells := 0, slots := 0, locals := 13 }
def Q1 (Z : State) (p0 : Int32) (h0 : Heap) (n0 : Nat) (v : Option Value) (h : Heap) (L : List Loc) : Prop := v = some (.int (f1 p0)) ∧ L = [] ∧ h = h0
set_option maxRecDepth 65536 in
set_option maxHeartbeats 40000000 in
theorem rm1 (l : Launch) (Z : State) (aw : Array Value) (hw : ∀ d ∈ tables_1, d.before aw Z = true) (ws : List Jvm.Cond) (p0 : Int32) (h0 : Heap) (n0 : Nat) (Z0 : n0 ≤ h0.size) :
    MetFree l (⟨"com/example/fenced_widget/fencedwidget/fence/BoundsOverlapsPinLaw", "size", "(I)I"⟩ : MethodName) (head1 (Jvm.Cond.code (⟨"com/example/fenced_widget/fencedwidget/fence/BoundsOverlapsPinLaw", "size", "(I)I"⟩ : MethodName) method_2_code 1 (some .int) :: ws) room1) (fun a U => a = #[(.int p0)] ∧ Z.Warmed39 U.vm ∧ U.heap = h0) (fun _ _ _ _ _ => True) (fun _ U o U' => ∃ v L, o = .returned v ∧ Q1 Z p0 h0 n0 v U'.heap L ∧ FrameEnd U o U' L room1.cells room1.slots) := by
  refine MetFree.of_bodySF (plainFor_of_name pn_1) hisR ?_
  intro p e s m args below meth c s₁ Bd hml0 hP hK
  obtain ⟨rfl, hZ, hh⟩ := hP
  have hx := Bd.exec
  have hby := Bd.bytes
  have hml : c.maxLocals = 1 := hml0
  have hown : s.vm.findClass "com/example/fenced_widget/fencedwidget/fence/BoundsOverlapsPinLaw" = some m.cls := findClass_of_methodNamed Bd.named
  have hnm := (name_of_methodNamed Bd.named Bd.method).1
  have X0 : Stand p l e room1 s m #[(.int p0)] below meth c s₁ [] 0 0 := Stand.of_body Bd
  have e0 : s₁.heap = h0 := by rw [← hh, Bd.state]; rfl
  have N0 := Fr.nil n0
  rw [ef_1 m p0]
  refine go_in (s₁ := s₁) (Q := Q1 Z p0 h0 n0) fun F hF => ?_
  refine go (B := s₁.setTop (mkF m 1 #[.val (.int p0)] [(.int (1 : Int32))])) (fun _ k => XS.iconst X0.here hx rfl (hb hby d1_0) k) ?_
  refine go (B := s₁.setTop (mkF m 2 #[.val (.int p0)] [(.int p0), (.int (1 : Int32))])) (fun _ k => XS.iloadN X0.here hx rfl (hb hby d1_1) rfl k) ?_
  refine go (B := s₁.setTop (mkF m 4 #[.val (.int p0)] [(.int (2147483647 : Int32)), (.int p0), (.int (1 : Int32))])) (fun _ k => X0.ldcInt hx hown (mvT hZ (hw _ (List.mem_of_getElem? (i := 4) rfl))) (g := (mkF m 2 #[.val (.int p0)] [(.int p0), (.int (1 : Int32))])) rfl (hb hby d1_2) _ k) ?_
  refine go (B := s₁.setTop (mkF m 5 #[.val (.int p0)] [(.int (p0 &&& (2147483647 : Int32))), (.int (1 : Int32))])) (fun _ k => XS.iand X0.here hx rfl (hb hby d1_4) rfl k) ?_
  obtain ⟨_, _, ⟨T1, L1, k1, n1⟩, -, X1, ⟨Lc1, hQ1, l1, y1, z1⟩, st1⟩ := Jvm.LawKit.callS X0 hx (y := (⟨"java/lang/Math", "max", "(II)I"⟩ : MethodName)) hown (mvT hZ (hw _ (List.mem_of_getElem? (i := 5) rfl))) (mvT hZ (hw _ (List.mem_of_getElem? (i := 6) rfl))) (mvT hZ (hw _ (List.mem_of_getElem? (i := 7) rfl))) (mvT hZ (hw _ (List.mem_of_getElem? (i := 8) rfl))) (by decide) (backOf (W := 0) (rm2 l Z aw hw [] (1 : Int32) (p0 &&& (2147483647 : Int32)) h0 n0 Z0 ) hZ (hw _ (List.mem_of_getElem? (i := 8) rfl)) (hw _ (List.mem_of_getElem? (i := 7) rfl)) (by decide) (by decide)) (g := (mkF m 5 #[.val (.int p0)] [(.int (p0 &&& (2147483647 : Int32))), (.int (1 : Int32))])) rfl (by rw [hml]; rfl) (argsL := [(.int (1 : Int32)), (.int (p0 &&& (2147483647 : Int32)))]) (rest := []) (lenOf pd_0 rfl) rfl (by show 2 * 0 + _ ≤ _; exact Nat.le_of_eq rfl) (hb hby d1_5) (fun _ _ => ⟨rfl, e0, (by decide : 0 + 0 ≤ _), (by decide : 0 + 0 ≤ _)⟩)
  dsimp only [Pt.U, Pt.locs, Pt.cells, Pt.slots] at X1 l1 y1 z1 st1 hQ1
  subst l1 y1 z1
  obtain ⟨rfl, rfl, e1⟩ := hQ1
  refine go (B := T1.setTop (mkF m 8 #[.val (.int p0)] [(.int (f2 (1 : Int32) (p0 &&& (2147483647 : Int32))))])) (fun _ k => st1 _ k) ?_
  have r2 : (f1 p0) = (f2 (1 : Int32) (p0 &&& (2147483647 : Int32))) := by unfold f1; rfl
  exact end_int X1 hx Bd.notSynchronized Bd.returns (hb hby d1_8) hF e1 (by decide) (by decide) ⟨(congrArg (fun z => some (Value.int z)) r2.symm), rfl, rfl⟩
theorem d3_0 : decode prog_3_method_1_code 0 = .ok (.aload_n 0, 1) := by decide +kernel
theorem d3_1 : decode prog_3_method_1_code 1 = .ok (.invokespecial 1, 3) := by decide +kernel
theorem d3_4 : decode prog_3_method_1_code 4 = .ok (.aload_n 0, 1) := by decide +kernel
theorem d3_5 : decode prog_3_method_1_code 5 = .ok (.iload_n 1, 1) := by decide +kernel
theorem d3_6 : decode prog_3_method_1_code 6 = .ok (.putfield 7, 3) := by decide +kernel
theorem d3_9 : decode prog_3_method_1_code 9 = .ok (.aload_n 0, 1) := by decide +kernel
theorem d3_10 : decode prog_3_method_1_code 10 = .ok (.iload_n 2, 1) := by decide +kernel
theorem d3_11 : decode prog_3_method_1_code 11 = .ok (.putfield 13, 3) := by decide +kernel
theorem d3_14 : decode prog_3_method_1_code 14 = .ok (.aload_n 0, 1) := by decide +kernel
theorem d3_15 : decode prog_3_method_1_code 15 = .ok (.iload_n 3, 1) := by decide +kernel
theorem d3_16 : decode prog_3_method_1_code 16 = .ok (.putfield 16, 3) := by decide +kernel
theorem d3_19 : decode prog_3_method_1_code 19 = .ok (.aload_n 0, 1) := by decide +kernel
theorem d3_20 : decode prog_3_method_1_code 20 = .ok (.iload 4, 2) := by decide +kernel
theorem d3_22 : decode prog_3_method_1_code 22 = .ok (.putfield 19, 3) := by decide +kernel
theorem d3_25 : decode prog_3_method_1_code 25 = .ok (.return_, 1) := by decide +kernel
theorem pn_3 : plainName "com/example/fenced_widget/fencedwidget/fence/Bounds" = true := by first | (simp [plainName, overriddenIn]; done) | decide +kernel
theorem ef_3 (m : MethodId) (a0 : Addr) (p1 : Int32) (p2 : Int32) (p3 : Int32) (p4 : Int32) : entryFrame m #[(.ref a0), (.int p1), (.int p2), (.int p3), (.int p4)] 5 = mkF m 0 #[.val (.ref a0), .val (.int p1), .val (.int p2), .val (.int p3), .val (.int p4)] [] := by first | (simp [entryFrame, mkF, argsToLocals, Value.category]; done) | rfl
abbrev room3 : Room := { frames := 1, cells := 0, slots := 0, locals := 12 }
def Q3 (Z : State) (a0 : Addr) (p1 : Int32) (p2 : Int32) (p3 : Int32) (p4 : Int32) (h0 : Heap) (n0 : Nat) (v : Option Value) (h : Heap) (L : List Loc) : Prop := v = none ∧ Fr n0 L ∧ Keep h0 h [a0] ∧ Exa Z h a0 "com/example/fenced_widget/fencedwidget/fence/Bounds" ∧ Fld Z h a0 "com/example/fenced_widget/fencedwidget/fence/Bounds" "x" "I" (.int p1) ∧ Fld Z h a0 "com/example/fenced_widget/fencedwidget/fence/Bounds" "y" "I" (.int p2) ∧ Fld Z h a0 "com/example/fenced_widget/fencedwidget/fence/Bounds" "width" "I" (.int p3) ∧ Fld Z h a0 "com/example/fenced_widget/fencedwidget/fence/Bounds" "height" "I" (.int p4)
set_option maxRecDepth 65536 in
set_option maxHeartbeats 40000000 in
theorem rm3 (l : Launch) (Z : State) (aw : Array Value) (hw : ∀ d ∈ tables_1, d.before aw Z = true) (ws : List Jvm.Cond) (a0 : Addr) (p1 : Int32) (p2 : Int32) (p3 : Int32) (p4 : Int32) (h0 : Heap) (n0 : Nat) (Z0 : n0 ≤ h0.size) (F_x_a0 : Fld Z h0 a0 "com/example/fenced_widget/fencedwidget/fence/Bounds" "x" "I" (.int (0 : Int32))) (F_y_a0 : Fld Z h0 a0 "com/example/fenced_widget/fencedwidget/fence/Bounds" "y" "I" (.int (0 : Int32))) (F_width_a0 : Fld Z h0 a0 "com/example/fenced_widget/fencedwidget/fence/Bounds" "width" "I" (.int (0 : Int32))) (F_height_a0 : Fld Z h0 a0 "com/example/fenced_widget/fencedwidget/fence/Bounds" "height" "I" (.int (0 : Int32))) (E_a0 : Exa Z h0 a0 "com/example/fenced_widget/fencedwidget/fence/Bounds") (g_a0 : n0 ≤ a0) :
    MetFree l (⟨"com/example/fenced_widget/fencedwidget/fence/Bounds", "<init>", "(IIII)V"⟩ : MethodName) (head1 (Jvm.Cond.code (⟨"com/example/fenced_widget/fencedwidget/fence/Bounds", "<init>", "(IIII)V"⟩ : MethodName) prog_3_method_1_code 5 none :: ws) room3) (fun a U => a = #[(.ref a0), (.int p1), (.int p2), (.int p3), (.int p4)] ∧ Z.Warmed39 U.vm ∧ U.heap = h0) (fun _ _ _ _ _ => True) (fun _ U o U' => ∃ v L, o = .returned v ∧ Q3 Z a0 p1 p2 p3 p4 h0 n0 v U'.heap L ∧ FrameEnd U o U' L room3.cells room3.slots) := by
  refine MetFree.of_bodySF (plainFor_of_name pn_3) hisR ?_
  intro p e s m args below meth c s₁ Bd hml0 hP hK
  obtain ⟨rfl, hZ, hh⟩ := hP
  have hx := Bd.exec
  have hby := Bd.bytes
  have hml : c.maxLocals = 5 := hml0
  have hown : s.vm.findClass "com/example/fenced_widget/fencedwidget/fence/Bounds" = some m.cls := findClass_of_methodNamed Bd.named
  have hnm := (name_of_methodNamed Bd.named Bd.method).1
  have X0 : Stand p l e room3 s m #[(.ref a0), (.int p1), (.int p2), (.int p3), (.int p4)] below meth c s₁ [] 0 0 := Stand.of_body Bd
  have e0 : s₁.heap = h0 := by rw [← hh, Bd.state]; rfl
  have N0 := Fr.nil n0
  have K0 := Keep.refl h0 [a0]
  rw [ef_3 m a0 p1 p2 p3 p4]
  refine go_in (s₁ := s₁) (Q := Q3 Z a0 p1 p2 p3 p4 h0 n0) fun F hF => ?_
  refine go (B := s₁.setTop (mkF m 1 #[.val (.ref a0), .val (.int p1), .val (.int p2), .val (.int p3), .val (.int p4)] [(.ref a0)])) (fun _ k => XS.aloadN X0.here hx rfl (hb hby d3_0) rfl rfl k) ?_
  obtain ⟨T1, X1, e1, st1⟩ := initO X0 hx hZ hown (hw _ (List.mem_of_getElem? (i := 15) rfl)) (hw _ (List.mem_of_getElem? (i := 16) rfl)) (hw _ (List.mem_of_getElem? (i := 17) rfl)) e0 (g := (mkF m 1 #[.val (.ref a0), .val (.int p1), .val (.int p2), .val (.int p3), .val (.int p4)] [(.ref a0)])) rfl (by rw [hml]; rfl) rfl (hb hby d3_1) (by decide) (W := 0) (by show 2 * 0 + _ ≤ _; exact Nat.le_of_eq rfl) (by decide)
  refine go (B := T1.setTop (mkF m 4 #[.val (.ref a0), .val (.int p1), .val (.int p2), .val (.int p3), .val (.int p4)] [])) st1 ?_
  refine go (B := T1.setTop (mkF m 5 #[.val (.ref a0), .val (.int p1), .val (.int p2), .val (.int p3), .val (.int p4)] [(.ref a0)])) (fun _ k => XS.aloadN X1.here hx rfl (hb hby d3_4) rfl rfl k) ?_
  refine go (B := T1.setTop (mkF m 6 #[.val (.ref a0), .val (.int p1), .val (.int p2), .val (.int p3), .val (.int p4)] [(.int p1), (.ref a0)])) (fun _ k => XS.iloadN X1.here hx rfl (hb hby d3_5) rfl k) ?_
  obtain ⟨T2, h2, X2, e2, W2, st2⟩ := putF X1 hx hZ hown (host := "") (Or.inl (hw _ (List.mem_of_getElem? (i := 18) rfl))) Via.refl e1 F_x_a0 E_a0 (Or.inr ⟨(hw _ (List.mem_of_getElem? (i := 19) rfl)), rfl, hnm⟩) (hw _ (List.mem_of_getElem? (i := 10) rfl)) (ty := .int) (by decide) rfl rfl (g := (mkF m 6 #[.val (.ref a0), .val (.int p1), .val (.int p2), .val (.int p3), .val (.int p4)] [(.int p1), (.ref a0)])) rfl rfl (hb hby d3_6)
  have F_y_a0_2 := Fld.other W2 F_y_a0 (Or.inr (slot_ne (Or.inr (hw _ (List.mem_of_getElem? (i := 21) rfl))) (Or.inr (hw _ (List.mem_of_getElem? (i := 19) rfl))) (by decide) (t := .int) (t' := .int) (by decide) (by decide)))
  have F_width_a0_2 := Fld.other W2 F_width_a0 (Or.inr (slot_ne (Or.inr (hw _ (List.mem_of_getElem? (i := 23) rfl))) (Or.inr (hw _ (List.mem_of_getElem? (i := 19) rfl))) (by decide) (t := .int) (t' := .int) (by decide) (by decide)))
  have F_height_a0_2 := Fld.other W2 F_height_a0 (Or.inr (slot_ne (Or.inr (hw _ (List.mem_of_getElem? (i := 25) rfl))) (Or.inr (hw _ (List.mem_of_getElem? (i := 19) rfl))) (by decide) (t := .int) (t' := .int) (by decide) (by decide)))
  have E_a0_2 := E_a0.wr W2
  have F_x_a0_2 := Fld.same W2 F_x_a0
  have Z2 := Nat.le_trans Z0 (Keep.of_wr W2).1
  have K2 := K0.wr W2 (Or.inl (List.mem_of_getElem? (i := 0) rfl))
  have N2 := Fr.snoc X2 N0 g_a0
  refine go (B := T2.setTop (mkF m 9 #[.val (.ref a0), .val (.int p1), .val (.int p2), .val (.int p3), .val (.int p4)] [])) st2 ?_
  refine go (B := T2.setTop (mkF m 10 #[.val (.ref a0), .val (.int p1), .val (.int p2), .val (.int p3), .val (.int p4)] [(.ref a0)])) (fun _ k => XS.aloadN X2.here hx rfl (hb hby d3_9) rfl rfl k) ?_
  refine go (B := T2.setTop (mkF m 11 #[.val (.ref a0), .val (.int p1), .val (.int p2), .val (.int p3), .val (.int p4)] [(.int p2), (.ref a0)])) (fun _ k => XS.iloadN X2.here hx rfl (hb hby d3_10) rfl k) ?_
  obtain ⟨T3, h3, X3, e3, W3, st3⟩ := putF X2 hx hZ hown (host := "") (Or.inl (hw _ (List.mem_of_getElem? (i := 20) rfl))) Via.refl e2 F_y_a0_2 E_a0_2 (Or.inr ⟨(hw _ (List.mem_of_getElem? (i := 21) rfl)), rfl, hnm⟩) (hw _ (List.mem_of_getElem? (i := 10) rfl)) (ty := .int) (by decide) rfl rfl (g := (mkF m 11 #[.val (.ref a0), .val (.int p1), .val (.int p2), .val (.int p3), .val (.int p4)] [(.int p2), (.ref a0)])) rfl rfl (hb hby d3_11)
  have F_width_a0_3 := Fld.other W3 F_width_a0_2 (Or.inr (slot_ne (Or.inr (hw _ (List.mem_of_getElem? (i := 23) rfl))) (Or.inr (hw _ (List.mem_of_getElem? (i := 21) rfl))) (by decide) (t := .int) (t' := .int) (by decide) (by decide)))
  have F_height_a0_3 := Fld.other W3 F_height_a0_2 (Or.inr (slot_ne (Or.inr (hw _ (List.mem_of_getElem? (i := 25) rfl))) (Or.inr (hw _ (List.mem_of_getElem? (i := 21) rfl))) (by decide) (t := .int) (t' := .int) (by decide) (by decide)))
  have E_a0_3 := E_a0_2.wr W3
  have F_x_a0_3 := Fld.other W3 F_x_a0_2 (Or.inr (slot_ne (Or.inr (hw _ (List.mem_of_getElem? (i := 19) rfl))) (Or.inr (hw _ (List.mem_of_getElem? (i := 21) rfl))) (by decide) (t := .int) (t' := .int) (by decide) (by decide)))
  have F_y_a0_3 := Fld.same W3 F_y_a0_2
  have Z3 := Nat.le_trans Z2 (Keep.of_wr W3).1
  have K3 := K2.wr W3 (Or.inl (List.mem_of_getElem? (i := 0) rfl))
  have N3 := Fr.snoc X3 N2 g_a0
  refine go (B := T3.setTop (mkF m 14 #[.val (.ref a0), .val (.int p1), .val (.int p2), .val (.int p3), .val (.int p4)] [])) st3 ?_
  refine go (B := T3.setTop (mkF m 15 #[.val (.ref a0), .val (.int p1), .val (.int p2), .val (.int p3), .val (.int p4)] [(.ref a0)])) (fun _ k => XS.aloadN X3.here hx rfl (hb hby d3_14) rfl rfl k) ?_
  refine go (B := T3.setTop (mkF m 16 #[.val (.ref a0), .val (.int p1), .val (.int p2), .val (.int p3), .val (.int p4)] [(.int p3), (.ref a0)])) (fun _ k => XS.iloadN X3.here hx rfl (hb hby d3_15) rfl k) ?_
  obtain ⟨T4, h4, X4, e4, W4, st4⟩ := putF X3 hx hZ hown (host := "") (Or.inl (hw _ (List.mem_of_getElem? (i := 22) rfl))) Via.refl e3 F_width_a0_3 E_a0_3 (Or.inr ⟨(hw _ (List.mem_of_getElem? (i := 23) rfl)), rfl, hnm⟩) (hw _ (List.mem_of_getElem? (i := 10) rfl)) (ty := .int) (by decide) rfl rfl (g := (mkF m 16 #[.val (.ref a0), .val (.int p1), .val (.int p2), .val (.int p3), .val (.int p4)] [(.int p3), (.ref a0)])) rfl rfl (hb hby d3_16)
  have F_height_a0_4 := Fld.other W4 F_height_a0_3 (Or.inr (slot_ne (Or.inr (hw _ (List.mem_of_getElem? (i := 25) rfl))) (Or.inr (hw _ (List.mem_of_getElem? (i := 23) rfl))) (by decide) (t := .int) (t' := .int) (by decide) (by decide)))
  have E_a0_4 := E_a0_3.wr W4
  have F_x_a0_4 := Fld.other W4 F_x_a0_3 (Or.inr (slot_ne (Or.inr (hw _ (List.mem_of_getElem? (i := 19) rfl))) (Or.inr (hw _ (List.mem_of_getElem? (i := 23) rfl))) (by decide) (t := .int) (t' := .int) (by decide) (by decide)))
  have F_y_a0_4 := Fld.other W4 F_y_a0_3 (Or.inr (slot_ne (Or.inr (hw _ (List.mem_of_getElem? (i := 21) rfl))) (Or.inr (hw _ (List.mem_of_getElem? (i := 23) rfl))) (by decide) (t := .int) (t' := .int) (by decide) (by decide)))
  have F_width_a0_4 := Fld.same W4 F_width_a0_3
  have Z4 := Nat.le_trans Z3 (Keep.of_wr W4).1
  have K4 := K3.wr W4 (Or.inl (List.mem_of_getElem? (i := 0) rfl))
  have N4 := Fr.snoc X4 N3 g_a0
  refine go (B := T4.setTop (mkF m 19 #[.val (.ref a0), .val (.int p1), .val (.int p2), .val (.int p3), .val (.int p4)] [])) st4 ?_
  refine go (B := T4.setTop (mkF m 20 #[.val (.ref a0), .val (.int p1), .val (.int p2), .val (.int p3), .val (.int p4)] [(.ref a0)])) (fun _ k => XS.aloadN X4.here hx rfl (hb hby d3_19) rfl rfl k) ?_
  refine go (B := T4.setTop (mkF m 22 #[.val (.ref a0), .val (.int p1), .val (.int p2), .val (.int p3), .val (.int p4)] [(.int p4), (.ref a0)])) (fun _ k => XS.iload X4.here hx rfl (hb hby d3_20) rfl k) ?_
  obtain ⟨T5, h5, X5, e5, W5, st5⟩ := putF X4 hx hZ hown (host := "") (Or.inl (hw _ (List.mem_of_getElem? (i := 24) rfl))) Via.refl e4 F_height_a0_4 E_a0_4 (Or.inr ⟨(hw _ (List.mem_of_getElem? (i := 25) rfl)), rfl, hnm⟩) (hw _ (List.mem_of_getElem? (i := 10) rfl)) (ty := .int) (by decide) rfl rfl (g := (mkF m 22 #[.val (.ref a0), .val (.int p1), .val (.int p2), .val (.int p3), .val (.int p4)] [(.int p4), (.ref a0)])) rfl rfl (hb hby d3_22)
  have E_a0_5 := E_a0_4.wr W5
  have F_x_a0_5 := Fld.other W5 F_x_a0_4 (Or.inr (slot_ne (Or.inr (hw _ (List.mem_of_getElem? (i := 19) rfl))) (Or.inr (hw _ (List.mem_of_getElem? (i := 25) rfl))) (by decide) (t := .int) (t' := .int) (by decide) (by decide)))
  have F_y_a0_5 := Fld.other W5 F_y_a0_4 (Or.inr (slot_ne (Or.inr (hw _ (List.mem_of_getElem? (i := 21) rfl))) (Or.inr (hw _ (List.mem_of_getElem? (i := 25) rfl))) (by decide) (t := .int) (t' := .int) (by decide) (by decide)))
  have F_width_a0_5 := Fld.other W5 F_width_a0_4 (Or.inr (slot_ne (Or.inr (hw _ (List.mem_of_getElem? (i := 23) rfl))) (Or.inr (hw _ (List.mem_of_getElem? (i := 25) rfl))) (by decide) (t := .int) (t' := .int) (by decide) (by decide)))
  have F_height_a0_5 := Fld.same W5 F_height_a0_4
  have Z5 := Nat.le_trans Z4 (Keep.of_wr W5).1
  have K5 := K4.wr W5 (Or.inl (List.mem_of_getElem? (i := 0) rfl))
  have N5 := Fr.snoc X5 N4 g_a0
  refine go (B := T5.setTop (mkF m 25 #[.val (.ref a0), .val (.int p1), .val (.int p2), .val (.int p3), .val (.int p4)] [])) st5 ?_
  exact end_void X5 hx Bd.notSynchronized Bd.returns (hb hby d3_25) hF e5 (by decide) (by decide) ⟨rfl, N5, K5, E_a0_5, F_x_a0_5, F_y_a0_5, F_width_a0_5, F_height_a0_5⟩
theorem d5_0 : decode prog_3_method_2_code 0 = .ok (.iload_n 1, 1) := by decide +kernel
theorem d5_1 : decode prog_3_method_2_code 1 = .ok (.aload_n 0, 1) := by decide +kernel
theorem d5_2 : decode prog_3_method_2_code 2 = .ok (.getfield 7, 3) := by decide +kernel
theorem d5_5 : decode prog_3_method_2_code 5 = .ok (.if_icmp .lt 49, 3) := by decide +kernel
theorem d5_8 : decode prog_3_method_2_code 8 = .ok (.iload_n 1, 1) := by decide +kernel
theorem d5_9 : decode prog_3_method_2_code 9 = .ok (.i2l, 1) := by decide +kernel
theorem d5_10 : decode prog_3_method_2_code 10 = .ok (.aload_n 0, 1) := by decide +kernel
theorem d5_11 : decode prog_3_method_2_code 11 = .ok (.getfield 7, 3) := by decide +kernel
theorem d5_14 : decode prog_3_method_2_code 14 = .ok (.i2l, 1) := by decide +kernel
theorem d5_15 : decode prog_3_method_2_code 15 = .ok (.lsub, 1) := by decide +kernel
theorem d5_16 : decode prog_3_method_2_code 16 = .ok (.aload_n 0, 1) := by decide +kernel
theorem d5_17 : decode prog_3_method_2_code 17 = .ok (.getfield 16, 3) := by decide +kernel
theorem d5_20 : decode prog_3_method_2_code 20 = .ok (.i2l, 1) := by decide +kernel
theorem d5_21 : decode prog_3_method_2_code 21 = .ok (.lcmp, 1) := by decide +kernel
theorem d5_22 : decode prog_3_method_2_code 22 = .ok (.ifCond .ge 32, 3) := by decide +kernel
theorem d5_25 : decode prog_3_method_2_code 25 = .ok (.iload_n 2, 1) := by decide +kernel
theorem d5_26 : decode prog_3_method_2_code 26 = .ok (.aload_n 0, 1) := by decide +kernel
theorem d5_27 : decode prog_3_method_2_code 27 = .ok (.getfield 13, 3) := by decide +kernel
theorem d5_30 : decode prog_3_method_2_code 30 = .ok (.if_icmp .lt 24, 3) := by decide +kernel
theorem d5_33 : decode prog_3_method_2_code 33 = .ok (.iload_n 2, 1) := by decide +kernel
theorem d5_34 : decode prog_3_method_2_code 34 = .ok (.i2l, 1) := by decide +kernel
theorem d5_35 : decode prog_3_method_2_code 35 = .ok (.aload_n 0, 1) := by decide +kernel
theorem d5_36 : decode prog_3_method_2_code 36 = .ok (.getfield 13, 3) := by decide +kernel
theorem d5_39 : decode prog_3_method_2_code 39 = .ok (.i2l, 1) := by decide +kernel
theorem d5_40 : decode prog_3_method_2_code 40 = .ok (.lsub, 1) := by decide +kernel
theorem d5_41 : decode prog_3_method_2_code 41 = .ok (.aload_n 0, 1) := by decide +kernel
theorem d5_42 : decode prog_3_method_2_code 42 = .ok (.getfield 19, 3) := by decide +kernel
theorem d5_45 : decode prog_3_method_2_code 45 = .ok (.i2l, 1) := by decide +kernel
theorem d5_46 : decode prog_3_method_2_code 46 = .ok (.lcmp, 1) := by decide +kernel
theorem d5_47 : decode prog_3_method_2_code 47 = .ok (.ifCond .ge 7, 3) := by decide +kernel
theorem d5_50 : decode prog_3_method_2_code 50 = .ok (.iconst 1, 1) := by decide +kernel
theorem d5_51 : decode prog_3_method_2_code 51 = .ok (.goto 4, 3) := by decide +kernel
theorem d5_54 : decode prog_3_method_2_code 54 = .ok (.iconst 0, 1) := by decide +kernel
theorem d5_55 : decode prog_3_method_2_code 55 = .ok (.ireturn, 1) := by decide +kernel
theorem ef_5 (m : MethodId) (a0 : Addr) (p1 : Int32) (p2 : Int32) : entryFrame m #[(.ref a0), (.int p1), (.int p2)] 3 = mkF m 0 #[.val (.ref a0), .val (.int p1), .val (.int p2)] [] := by first | (simp [entryFrame, mkF, argsToLocals, Value.category]; done) | rfl
def f5 (p1 : Int32) (p2 : Int32) (w_x_a0 : Int32) (w_width_a0 : Int32) (w_y_a0 : Int32) (w_height_a0 : Int32) : Int32 := if p1 < w_x_a0 then (0 : Int32) else if (lcmpW ((p1.toInt64) - (w_x_a0.toInt64)) (w_width_a0.toInt64)) < (0 : Int32) then if p2 < w_y_a0 then (0 : Int32) else if (lcmpW ((p2.toInt64) - (w_y_a0.toInt64)) (w_height_a0.toInt64)) < (0 : Int32) then (1 : Int32) else (0 : Int32) else (0 : Int32)
abbrev room5 : Room := { frames := 0, cells := 0, slots := 0, locals := 0 }
def Q5 (Z : State) (a0 : Addr) (p1 : Int32) (p2 : Int32) (w_x_a0 : Int32) (w_width_a0 : Int32) (w_y_a0 : Int32) (w_height_a0 : Int32) (h0 : Heap) (n0 : Nat) (v : Option Value) (h : Heap) (L : List Loc) : Prop := v = some (.int (f5 p1 p2 w_x_a0 w_width_a0 w_y_a0 w_height_a0)) ∧ L = [] ∧ h = h0
set_option maxRecDepth 65536 in
set_option maxHeartbeats 40000000 in
theorem rm5 (l : Launch) (Z : State) (aw : Array Value) (hw : ∀ d ∈ tables_1, d.before aw Z = true) (ws : List Jvm.Cond) (a0 : Addr) (p1 : Int32) (p2 : Int32) (w_x_a0 : Int32) (w_width_a0 : Int32) (w_y_a0 : Int32) (w_height_a0 : Int32) (h0 : Heap) (n0 : Nat) (Z0 : n0 ≤ h0.size) (F_x_a0 : Fld Z h0 a0 "com/example/fenced_widget/fencedwidget/fence/Bounds" "x" "I" (.int w_x_a0)) (F_width_a0 : Fld Z h0 a0 "com/example/fenced_widget/fencedwidget/fence/Bounds" "width" "I" (.int w_width_a0)) (F_y_a0 : Fld Z h0 a0 "com/example/fenced_widget/fencedwidget/fence/Bounds" "y" "I" (.int w_y_a0)) (F_height_a0 : Fld Z h0 a0 "com/example/fenced_widget/fencedwidget/fence/Bounds" "height" "I" (.int w_height_a0)) :
    MetFree l (⟨"com/example/fenced_widget/fencedwidget/fence/Bounds", "contains", "(II)Z"⟩ : MethodName) (head1 (Jvm.Cond.code (⟨"com/example/fenced_widget/fencedwidget/fence/Bounds", "contains", "(II)Z"⟩ : MethodName) prog_3_method_2_code 3 (some .boolean) :: ws) room5) (fun a U => a = #[(.ref a0), (.int p1), (.int p2)] ∧ Z.Warmed39 U.vm ∧ U.heap = h0) (fun _ _ _ _ _ => True) (fun _ U o U' => ∃ v L, o = .returned v ∧ Q5 Z a0 p1 p2 w_x_a0 w_width_a0 w_y_a0 w_height_a0 h0 n0 v U'.heap L ∧ FrameEnd U o U' L room5.cells room5.slots) := by
  refine MetFree.of_bodySF (plainFor_of_name pn_3) hisR ?_
  intro p e s m args below meth c s₁ Bd hml0 hP hK
  obtain ⟨rfl, hZ, hh⟩ := hP
  have hx := Bd.exec
  have hby := Bd.bytes
  have hml : c.maxLocals = 3 := hml0
  have hown : s.vm.findClass "com/example/fenced_widget/fencedwidget/fence/Bounds" = some m.cls := findClass_of_methodNamed Bd.named
  have hnm := (name_of_methodNamed Bd.named Bd.method).1
  have X0 : Stand p l e room5 s m #[(.ref a0), (.int p1), (.int p2)] below meth c s₁ [] 0 0 := Stand.of_body Bd
  have e0 : s₁.heap = h0 := by rw [← hh, Bd.state]; rfl
  have N0 := Fr.nil n0
  rw [ef_5 m a0 p1 p2]
  refine go_in (s₁ := s₁) (Q := Q5 Z a0 p1 p2 w_x_a0 w_width_a0 w_y_a0 w_height_a0 h0 n0) fun F hF => ?_
  refine go (B := s₁.setTop (mkF m 1 #[.val (.ref a0), .val (.int p1), .val (.int p2)] [(.int p1)])) (fun _ k => XS.iloadN X0.here hx rfl (hb hby d5_0) rfl k) ?_
  refine go (B := s₁.setTop (mkF m 2 #[.val (.ref a0), .val (.int p1), .val (.int p2)] [(.ref a0), (.int p1)])) (fun _ k => XS.aloadN X0.here hx rfl (hb hby d5_1) rfl rfl k) ?_
  obtain ⟨T1, X1, e1, st1⟩ := getF X0 hx hZ hown (host := "") (Or.inl (hw _ (List.mem_of_getElem? (i := 18) rfl))) Via.refl e0 F_x_a0 (g := (mkF m 2 #[.val (.ref a0), .val (.int p1), .val (.int p2)] [(.ref a0), (.int p1)])) rfl rfl (hb hby d5_2)
  refine go (B := T1.setTop (mkF m 5 #[.val (.ref a0), .val (.int p1), .val (.int p2)] [(.int w_x_a0), (.int p1)])) st1 ?_
  by_cases hc2 : p1 < w_x_a0
  · refine go (B := T1.setTop (mkF m 54 #[.val (.ref a0), .val (.int p1), .val (.int p2)] [])) (fun _ k => XS.icmpYes X1.here hx rfl (pc0 := 5) (pc' := 54) rfl (hb hby d5_5) rfl (tlt hc2).1 (by decide) (by decide) k) ?_
    refine go (B := T1.setTop (mkF m 55 #[.val (.ref a0), .val (.int p1), .val (.int p2)] [(.int (0 : Int32))])) (fun _ k => XS.iconst X1.here hx rfl (hb hby d5_54) k) ?_
    have r3 : (f5 p1 p2 w_x_a0 w_width_a0 w_y_a0 w_height_a0) = (0 : Int32) := by unfold f5; rw [if_pos hc2]
    exact end_nar X1 hx Bd.notSynchronized (t := .boolean) Bd.returns (by simp) (hb hby d5_55) hF e1 (by decide) (by decide) ⟨(congrArg (fun z => some (Value.int z)) r3.symm), rfl, rfl⟩
  · refine go (B := T1.setTop (mkF m 8 #[.val (.ref a0), .val (.int p1), .val (.int p2)] [])) (fun _ k => XS.icmpNo X1.here hx rfl (hb hby d5_5) rfl (flt hc2).1 k) ?_
    refine go (B := T1.setTop (mkF m 9 #[.val (.ref a0), .val (.int p1), .val (.int p2)] [(.int p1)])) (fun _ k => XS.iloadN X1.here hx rfl (hb hby d5_8) rfl k) ?_
    refine go (B := T1.setTop (mkF m 10 #[.val (.ref a0), .val (.int p1), .val (.int p2)] [(.long (p1.toInt64))])) (fun _ k => XS.i2l X1.here hx rfl (hb hby d5_9) rfl k) ?_
    refine go (B := T1.setTop (mkF m 11 #[.val (.ref a0), .val (.int p1), .val (.int p2)] [(.ref a0), (.long (p1.toInt64))])) (fun _ k => XS.aloadN X1.here hx rfl (hb hby d5_10) rfl rfl k) ?_
    obtain ⟨T4, X4, e4, st4⟩ := getF X1 hx hZ hown (host := "") (Or.inl (hw _ (List.mem_of_getElem? (i := 18) rfl))) Via.refl e1 F_x_a0 (g := (mkF m 11 #[.val (.ref a0), .val (.int p1), .val (.int p2)] [(.ref a0), (.long (p1.toInt64))])) rfl rfl (hb hby d5_11)
    refine go (B := T4.setTop (mkF m 14 #[.val (.ref a0), .val (.int p1), .val (.int p2)] [(.int w_x_a0), (.long (p1.toInt64))])) st4 ?_
    refine go (B := T4.setTop (mkF m 15 #[.val (.ref a0), .val (.int p1), .val (.int p2)] [(.long (w_x_a0.toInt64)), (.long (p1.toInt64))])) (fun _ k => XS.i2l X4.here hx rfl (hb hby d5_14) rfl k) ?_
    refine go (B := T4.setTop (mkF m 16 #[.val (.ref a0), .val (.int p1), .val (.int p2)] [(.long ((p1.toInt64) - (w_x_a0.toInt64)))])) (fun _ k => XS.lsub X4.here hx rfl (hb hby d5_15) rfl k) ?_
    refine go (B := T4.setTop (mkF m 17 #[.val (.ref a0), .val (.int p1), .val (.int p2)] [(.ref a0), (.long ((p1.toInt64) - (w_x_a0.toInt64)))])) (fun _ k => XS.aloadN X4.here hx rfl (hb hby d5_16) rfl rfl k) ?_
    obtain ⟨T5, X5, e5, st5⟩ := getF X4 hx hZ hown (host := "") (Or.inl (hw _ (List.mem_of_getElem? (i := 22) rfl))) Via.refl e4 F_width_a0 (g := (mkF m 17 #[.val (.ref a0), .val (.int p1), .val (.int p2)] [(.ref a0), (.long ((p1.toInt64) - (w_x_a0.toInt64)))])) rfl rfl (hb hby d5_17)
    refine go (B := T5.setTop (mkF m 20 #[.val (.ref a0), .val (.int p1), .val (.int p2)] [(.int w_width_a0), (.long ((p1.toInt64) - (w_x_a0.toInt64)))])) st5 ?_
    refine go (B := T5.setTop (mkF m 21 #[.val (.ref a0), .val (.int p1), .val (.int p2)] [(.long (w_width_a0.toInt64)), (.long ((p1.toInt64) - (w_x_a0.toInt64)))])) (fun _ k => XS.i2l X5.here hx rfl (hb hby d5_20) rfl k) ?_
    refine go (B := T5.setTop (mkF m 22 #[.val (.ref a0), .val (.int p1), .val (.int p2)] [(.int (lcmpW ((p1.toInt64) - (w_x_a0.toInt64)) (w_width_a0.toInt64)))])) (fun _ k => XS.lcmp X5.here hx rfl (hb hby d5_21) rfl k) ?_
    by_cases hc6 : (lcmpW ((p1.toInt64) - (w_x_a0.toInt64)) (w_width_a0.toInt64)) < (0 : Int32)
    · refine go (B := T5.setTop (mkF m 25 #[.val (.ref a0), .val (.int p1), .val (.int p2)] [])) (fun _ k => XS.ifNo X5.here hx rfl (hb hby d5_22) rfl ((if0 _ _).trans (tlt hc6).2.1) k) ?_
      refine go (B := T5.setTop (mkF m 26 #[.val (.ref a0), .val (.int p1), .val (.int p2)] [(.int p2)])) (fun _ k => XS.iloadN X5.here hx rfl (hb hby d5_25) rfl k) ?_
      refine go (B := T5.setTop (mkF m 27 #[.val (.ref a0), .val (.int p1), .val (.int p2)] [(.ref a0), (.int p2)])) (fun _ k => XS.aloadN X5.here hx rfl (hb hby d5_26) rfl rfl k) ?_
      obtain ⟨T7, X7, e7, st7⟩ := getF X5 hx hZ hown (host := "") (Or.inl (hw _ (List.mem_of_getElem? (i := 20) rfl))) Via.refl e5 F_y_a0 (g := (mkF m 27 #[.val (.ref a0), .val (.int p1), .val (.int p2)] [(.ref a0), (.int p2)])) rfl rfl (hb hby d5_27)
      refine go (B := T7.setTop (mkF m 30 #[.val (.ref a0), .val (.int p1), .val (.int p2)] [(.int w_y_a0), (.int p2)])) st7 ?_
      by_cases hc8 : p2 < w_y_a0
      · refine go (B := T7.setTop (mkF m 54 #[.val (.ref a0), .val (.int p1), .val (.int p2)] [])) (fun _ k => XS.icmpYes X7.here hx rfl (pc0 := 30) (pc' := 54) rfl (hb hby d5_30) rfl (tlt hc8).1 (by decide) (by decide) k) ?_
        refine go (B := T7.setTop (mkF m 55 #[.val (.ref a0), .val (.int p1), .val (.int p2)] [(.int (0 : Int32))])) (fun _ k => XS.iconst X7.here hx rfl (hb hby d5_54) k) ?_
        have r9 : (f5 p1 p2 w_x_a0 w_width_a0 w_y_a0 w_height_a0) = (0 : Int32) := by unfold f5; rw [if_neg hc2, if_pos hc6, if_pos hc8]
        exact end_nar X7 hx Bd.notSynchronized (t := .boolean) Bd.returns (by simp) (hb hby d5_55) hF e7 (by decide) (by decide) ⟨(congrArg (fun z => some (Value.int z)) r9.symm), rfl, rfl⟩
      · refine go (B := T7.setTop (mkF m 33 #[.val (.ref a0), .val (.int p1), .val (.int p2)] [])) (fun _ k => XS.icmpNo X7.here hx rfl (hb hby d5_30) rfl (flt hc8).1 k) ?_
        refine go (B := T7.setTop (mkF m 34 #[.val (.ref a0), .val (.int p1), .val (.int p2)] [(.int p2)])) (fun _ k => XS.iloadN X7.here hx rfl (hb hby d5_33) rfl k) ?_
        refine go (B := T7.setTop (mkF m 35 #[.val (.ref a0), .val (.int p1), .val (.int p2)] [(.long (p2.toInt64))])) (fun _ k => XS.i2l X7.here hx rfl (hb hby d5_34) rfl k) ?_
        refine go (B := T7.setTop (mkF m 36 #[.val (.ref a0), .val (.int p1), .val (.int p2)] [(.ref a0), (.long (p2.toInt64))])) (fun _ k => XS.aloadN X7.here hx rfl (hb hby d5_35) rfl rfl k) ?_
        obtain ⟨T10, X10, e10, st10⟩ := getF X7 hx hZ hown (host := "") (Or.inl (hw _ (List.mem_of_getElem? (i := 20) rfl))) Via.refl e7 F_y_a0 (g := (mkF m 36 #[.val (.ref a0), .val (.int p1), .val (.int p2)] [(.ref a0), (.long (p2.toInt64))])) rfl rfl (hb hby d5_36)
        refine go (B := T10.setTop (mkF m 39 #[.val (.ref a0), .val (.int p1), .val (.int p2)] [(.int w_y_a0), (.long (p2.toInt64))])) st10 ?_
        refine go (B := T10.setTop (mkF m 40 #[.val (.ref a0), .val (.int p1), .val (.int p2)] [(.long (w_y_a0.toInt64)), (.long (p2.toInt64))])) (fun _ k => XS.i2l X10.here hx rfl (hb hby d5_39) rfl k) ?_
        refine go (B := T10.setTop (mkF m 41 #[.val (.ref a0), .val (.int p1), .val (.int p2)] [(.long ((p2.toInt64) - (w_y_a0.toInt64)))])) (fun _ k => XS.lsub X10.here hx rfl (hb hby d5_40) rfl k) ?_
        refine go (B := T10.setTop (mkF m 42 #[.val (.ref a0), .val (.int p1), .val (.int p2)] [(.ref a0), (.long ((p2.toInt64) - (w_y_a0.toInt64)))])) (fun _ k => XS.aloadN X10.here hx rfl (hb hby d5_41) rfl rfl k) ?_
        obtain ⟨T11, X11, e11, st11⟩ := getF X10 hx hZ hown (host := "") (Or.inl (hw _ (List.mem_of_getElem? (i := 24) rfl))) Via.refl e10 F_height_a0 (g := (mkF m 42 #[.val (.ref a0), .val (.int p1), .val (.int p2)] [(.ref a0), (.long ((p2.toInt64) - (w_y_a0.toInt64)))])) rfl rfl (hb hby d5_42)
        refine go (B := T11.setTop (mkF m 45 #[.val (.ref a0), .val (.int p1), .val (.int p2)] [(.int w_height_a0), (.long ((p2.toInt64) - (w_y_a0.toInt64)))])) st11 ?_
        refine go (B := T11.setTop (mkF m 46 #[.val (.ref a0), .val (.int p1), .val (.int p2)] [(.long (w_height_a0.toInt64)), (.long ((p2.toInt64) - (w_y_a0.toInt64)))])) (fun _ k => XS.i2l X11.here hx rfl (hb hby d5_45) rfl k) ?_
        refine go (B := T11.setTop (mkF m 47 #[.val (.ref a0), .val (.int p1), .val (.int p2)] [(.int (lcmpW ((p2.toInt64) - (w_y_a0.toInt64)) (w_height_a0.toInt64)))])) (fun _ k => XS.lcmp X11.here hx rfl (hb hby d5_46) rfl k) ?_
        by_cases hc12 : (lcmpW ((p2.toInt64) - (w_y_a0.toInt64)) (w_height_a0.toInt64)) < (0 : Int32)
        · refine go (B := T11.setTop (mkF m 50 #[.val (.ref a0), .val (.int p1), .val (.int p2)] [])) (fun _ k => XS.ifNo X11.here hx rfl (hb hby d5_47) rfl ((if0 _ _).trans (tlt hc12).2.1) k) ?_
          refine go (B := T11.setTop (mkF m 51 #[.val (.ref a0), .val (.int p1), .val (.int p2)] [(.int (1 : Int32))])) (fun _ k => XS.iconst X11.here hx rfl (hb hby d5_50) k) ?_
          refine go (B := T11.setTop (mkF m 55 #[.val (.ref a0), .val (.int p1), .val (.int p2)] [(.int (1 : Int32))])) (fun _ k => XS.goto X11.here hx rfl (pc0 := 51) (pc' := 55) rfl (hb hby d5_51) (by decide) (by decide) k) ?_
          have r13 : (f5 p1 p2 w_x_a0 w_width_a0 w_y_a0 w_height_a0) = (1 : Int32) := by unfold f5; rw [if_neg hc2, if_pos hc6, if_neg hc8, if_pos hc12]
          exact end_nar X11 hx Bd.notSynchronized (t := .boolean) Bd.returns (by simp) (hb hby d5_55) hF e11 (by decide) (by decide) ⟨(congrArg (fun z => some (Value.int z)) r13.symm), rfl, rfl⟩
        · refine go (B := T11.setTop (mkF m 54 #[.val (.ref a0), .val (.int p1), .val (.int p2)] [])) (fun _ k => XS.ifYes X11.here hx rfl (pc0 := 47) (pc' := 54) rfl (hb hby d5_47) rfl ((if0 _ _).trans (flt hc12).2.1) (by decide) (by decide) k) ?_
          refine go (B := T11.setTop (mkF m 55 #[.val (.ref a0), .val (.int p1), .val (.int p2)] [(.int (0 : Int32))])) (fun _ k => XS.iconst X11.here hx rfl (hb hby d5_54) k) ?_
          have r14 : (f5 p1 p2 w_x_a0 w_width_a0 w_y_a0 w_height_a0) = (0 : Int32) := by unfold f5; rw [if_neg hc2, if_pos hc6, if_neg hc8, if_neg hc12]
          exact end_nar X11 hx Bd.notSynchronized (t := .boolean) Bd.returns (by simp) (hb hby d5_55) hF e11 (by decide) (by decide) ⟨(congrArg (fun z => some (Value.int z)) r14.symm), rfl, rfl⟩
    · refine go (B := T5.setTop (mkF m 54 #[.val (.ref a0), .val (.int p1), .val (.int p2)] [])) (fun _ k => XS.ifYes X5.here hx rfl (pc0 := 22) (pc' := 54) rfl (hb hby d5_22) rfl ((if0 _ _).trans (flt hc6).2.1) (by decide) (by decide) k) ?_
      refine go (B := T5.setTop (mkF m 55 #[.val (.ref a0), .val (.int p1), .val (.int p2)] [(.int (0 : Int32))])) (fun _ k => XS.iconst X5.here hx rfl (hb hby d5_54) k) ?_
      have r15 : (f5 p1 p2 w_x_a0 w_width_a0 w_y_a0 w_height_a0) = (0 : Int32) := by unfold f5; rw [if_neg hc2, if_neg hc6]
      exact end_nar X5 hx Bd.notSynchronized (t := .boolean) Bd.returns (by simp) (hb hby d5_55) hF e5 (by decide) (by decide) ⟨(congrArg (fun z => some (Value.int z)) r15.symm), rfl, rfl⟩
theorem d6_0 : decode prog_3_method_3_code 0 = .ok (.aload_n 0, 1) := by decide +kernel
theorem d6_1 : decode prog_3_method_3_code 1 = .ok (.getfield 7, 3) := by decide +kernel
theorem d6_4 : decode prog_3_method_3_code 4 = .ok (.i2l, 1) := by decide +kernel
theorem d6_5 : decode prog_3_method_3_code 5 = .ok (.aload_n 1, 1) := by decide +kernel
theorem d6_6 : decode prog_3_method_3_code 6 = .ok (.getfield 7, 3) := by decide +kernel
theorem d6_9 : decode prog_3_method_3_code 9 = .ok (.i2l, 1) := by decide +kernel
theorem d6_10 : decode prog_3_method_3_code 10 = .ok (.aload_n 1, 1) := by decide +kernel
theorem d6_11 : decode prog_3_method_3_code 11 = .ok (.getfield 16, 3) := by decide +kernel
theorem d6_14 : decode prog_3_method_3_code 14 = .ok (.i2l, 1) := by decide +kernel
theorem d6_15 : decode prog_3_method_3_code 15 = .ok (.ladd, 1) := by decide +kernel
theorem d6_16 : decode prog_3_method_3_code 16 = .ok (.lcmp, 1) := by decide +kernel
theorem d6_17 : decode prog_3_method_3_code 17 = .ok (.ifCond .ge 67, 3) := by decide +kernel
theorem d6_20 : decode prog_3_method_3_code 20 = .ok (.aload_n 1, 1) := by decide +kernel
theorem d6_21 : decode prog_3_method_3_code 21 = .ok (.getfield 7, 3) := by decide +kernel
theorem d6_24 : decode prog_3_method_3_code 24 = .ok (.i2l, 1) := by decide +kernel
theorem d6_25 : decode prog_3_method_3_code 25 = .ok (.aload_n 0, 1) := by decide +kernel
theorem d6_26 : decode prog_3_method_3_code 26 = .ok (.getfield 7, 3) := by decide +kernel
theorem d6_29 : decode prog_3_method_3_code 29 = .ok (.i2l, 1) := by decide +kernel
theorem d6_30 : decode prog_3_method_3_code 30 = .ok (.aload_n 0, 1) := by decide +kernel
theorem d6_31 : decode prog_3_method_3_code 31 = .ok (.getfield 16, 3) := by decide +kernel
theorem d6_34 : decode prog_3_method_3_code 34 = .ok (.i2l, 1) := by decide +kernel
theorem d6_35 : decode prog_3_method_3_code 35 = .ok (.ladd, 1) := by decide +kernel
theorem d6_36 : decode prog_3_method_3_code 36 = .ok (.lcmp, 1) := by decide +kernel
theorem d6_37 : decode prog_3_method_3_code 37 = .ok (.ifCond .ge 47, 3) := by decide +kernel
theorem d6_40 : decode prog_3_method_3_code 40 = .ok (.aload_n 0, 1) := by decide +kernel
theorem d6_41 : decode prog_3_method_3_code 41 = .ok (.getfield 13, 3) := by decide +kernel
theorem d6_44 : decode prog_3_method_3_code 44 = .ok (.i2l, 1) := by decide +kernel
theorem d6_45 : decode prog_3_method_3_code 45 = .ok (.aload_n 1, 1) := by decide +kernel
theorem d6_46 : decode prog_3_method_3_code 46 = .ok (.getfield 13, 3) := by decide +kernel
theorem d6_49 : decode prog_3_method_3_code 49 = .ok (.i2l, 1) := by decide +kernel
theorem d6_50 : decode prog_3_method_3_code 50 = .ok (.aload_n 1, 1) := by decide +kernel
theorem d6_51 : decode prog_3_method_3_code 51 = .ok (.getfield 19, 3) := by decide +kernel
theorem d6_54 : decode prog_3_method_3_code 54 = .ok (.i2l, 1) := by decide +kernel
theorem d6_55 : decode prog_3_method_3_code 55 = .ok (.ladd, 1) := by decide +kernel
theorem d6_56 : decode prog_3_method_3_code 56 = .ok (.lcmp, 1) := by decide +kernel
theorem d6_57 : decode prog_3_method_3_code 57 = .ok (.ifCond .ge 27, 3) := by decide +kernel
theorem d6_60 : decode prog_3_method_3_code 60 = .ok (.aload_n 1, 1) := by decide +kernel
theorem d6_61 : decode prog_3_method_3_code 61 = .ok (.getfield 13, 3) := by decide +kernel
theorem d6_64 : decode prog_3_method_3_code 64 = .ok (.i2l, 1) := by decide +kernel
theorem d6_65 : decode prog_3_method_3_code 65 = .ok (.aload_n 0, 1) := by decide +kernel
theorem d6_66 : decode prog_3_method_3_code 66 = .ok (.getfield 13, 3) := by decide +kernel
theorem d6_69 : decode prog_3_method_3_code 69 = .ok (.i2l, 1) := by decide +kernel
theorem d6_70 : decode prog_3_method_3_code 70 = .ok (.aload_n 0, 1) := by decide +kernel
theorem d6_71 : decode prog_3_method_3_code 71 = .ok (.getfield 19, 3) := by decide +kernel
theorem d6_74 : decode prog_3_method_3_code 74 = .ok (.i2l, 1) := by decide +kernel
theorem d6_75 : decode prog_3_method_3_code 75 = .ok (.ladd, 1) := by decide +kernel
theorem d6_76 : decode prog_3_method_3_code 76 = .ok (.lcmp, 1) := by decide +kernel
theorem d6_77 : decode prog_3_method_3_code 77 = .ok (.ifCond .ge 7, 3) := by decide +kernel
theorem d6_80 : decode prog_3_method_3_code 80 = .ok (.iconst 1, 1) := by decide +kernel
theorem d6_81 : decode prog_3_method_3_code 81 = .ok (.goto 4, 3) := by decide +kernel
theorem d6_84 : decode prog_3_method_3_code 84 = .ok (.iconst 0, 1) := by decide +kernel
theorem d6_85 : decode prog_3_method_3_code 85 = .ok (.ireturn, 1) := by decide +kernel
theorem ef_6 (m : MethodId) (a0 : Addr) (a1 : Addr) : entryFrame m #[(.ref a0), (.ref a1)] 2 = mkF m 0 #[.val (.ref a0), .val (.ref a1)] [] := by first | (simp [entryFrame, mkF, argsToLocals, Value.category]; done) | rfl
def f6 (w_x_a0 : Int32) (w_x_a1 : Int32) (w_width_a1 : Int32) (w_width_a0 : Int32) (w_y_a0 : Int32) (w_y_a1 : Int32) (w_height_a1 : Int32) (w_height_a0 : Int32) : Int32 := if (lcmpW (w_x_a0.toInt64) ((w_x_a1.toInt64) + (w_width_a1.toInt64))) < (0 : Int32) then if (lcmpW (w_x_a1.toInt64) ((w_x_a0.toInt64) + (w_width_a0.toInt64))) < (0 : Int32) then if (lcmpW (w_y_a0.toInt64) ((w_y_a1.toInt64) + (w_height_a1.toInt64))) < (0 : Int32) then if (lcmpW (w_y_a1.toInt64) ((w_y_a0.toInt64) + (w_height_a0.toInt64))) < (0 : Int32) then (1 : Int32) else (0 : Int32) else (0 : Int32) else (0 : Int32) else (0 : Int32)
abbrev room6 : Room := { frames := 0, cells := 0, slots := 0, locals := 0 }
def Q6 (Z : State) (a0 : Addr) (a1 : Addr) (w_x_a0 : Int32) (w_x_a1 : Int32) (w_width_a1 : Int32) (w_width_a0 : Int32) (w_y_a0 : Int32) (w_y_a1 : Int32) (w_height_a1 : Int32) (w_height_a0 : Int32) (h0 : Heap) (n0 : Nat) (v : Option Value) (h : Heap) (L : List Loc) : Prop := v = some (.int (f6 w_x_a0 w_x_a1 w_width_a1 w_width_a0 w_y_a0 w_y_a1 w_height_a1 w_height_a0)) ∧ L = [] ∧ h = h0
set_option maxRecDepth 65536 in
set_option maxHeartbeats 40000000 in
theorem rm6 (l : Launch) (Z : State) (aw : Array Value) (hw : ∀ d ∈ tables_1, d.before aw Z = true) (ws : List Jvm.Cond) (a0 : Addr) (a1 : Addr) (w_x_a0 : Int32) (w_x_a1 : Int32) (w_width_a1 : Int32) (w_width_a0 : Int32) (w_y_a0 : Int32) (w_y_a1 : Int32) (w_height_a1 : Int32) (w_height_a0 : Int32) (h0 : Heap) (n0 : Nat) (Z0 : n0 ≤ h0.size) (F_x_a0 : Fld Z h0 a0 "com/example/fenced_widget/fencedwidget/fence/Bounds" "x" "I" (.int w_x_a0)) (F_x_a1 : Fld Z h0 a1 "com/example/fenced_widget/fencedwidget/fence/Bounds" "x" "I" (.int w_x_a1)) (F_width_a1 : Fld Z h0 a1 "com/example/fenced_widget/fencedwidget/fence/Bounds" "width" "I" (.int w_width_a1)) (F_width_a0 : Fld Z h0 a0 "com/example/fenced_widget/fencedwidget/fence/Bounds" "width" "I" (.int w_width_a0)) (F_y_a0 : Fld Z h0 a0 "com/example/fenced_widget/fencedwidget/fence/Bounds" "y" "I" (.int w_y_a0)) (F_y_a1 : Fld Z h0 a1 "com/example/fenced_widget/fencedwidget/fence/Bounds" "y" "I" (.int w_y_a1)) (F_height_a1 : Fld Z h0 a1 "com/example/fenced_widget/fencedwidget/fence/Bounds" "height" "I" (.int w_height_a1)) (F_height_a0 : Fld Z h0 a0 "com/example/fenced_widget/fencedwidget/fence/Bounds" "height" "I" (.int w_height_a0)) :
    MetFree l (⟨"com/example/fenced_widget/fencedwidget/fence/Bounds", "overlaps", "(Lcom/example/fenced_widget/fencedwidget/fence/Bounds;)Z"⟩ : MethodName) (head1 (Jvm.Cond.code (⟨"com/example/fenced_widget/fencedwidget/fence/Bounds", "overlaps", "(Lcom/example/fenced_widget/fencedwidget/fence/Bounds;)Z"⟩ : MethodName) prog_3_method_3_code 2 (some .boolean) :: ws) room6) (fun a U => a = #[(.ref a0), (.ref a1)] ∧ Z.Warmed39 U.vm ∧ U.heap = h0) (fun _ _ _ _ _ => True) (fun _ U o U' => ∃ v L, o = .returned v ∧ Q6 Z a0 a1 w_x_a0 w_x_a1 w_width_a1 w_width_a0 w_y_a0 w_y_a1 w_height_a1 w_height_a0 h0 n0 v U'.heap L ∧ FrameEnd U o U' L room6.cells room6.slots) := by
  refine MetFree.of_bodySF (plainFor_of_name pn_3) hisR ?_
  intro p e s m args below meth c s₁ Bd hml0 hP hK
  obtain ⟨rfl, hZ, hh⟩ := hP
  have hx := Bd.exec
  have hby := Bd.bytes
  have hml : c.maxLocals = 2 := hml0
  have hown : s.vm.findClass "com/example/fenced_widget/fencedwidget/fence/Bounds" = some m.cls := findClass_of_methodNamed Bd.named
  have hnm := (name_of_methodNamed Bd.named Bd.method).1
  have X0 : Stand p l e room6 s m #[(.ref a0), (.ref a1)] below meth c s₁ [] 0 0 := Stand.of_body Bd
  have e0 : s₁.heap = h0 := by rw [← hh, Bd.state]; rfl
  have N0 := Fr.nil n0
  rw [ef_6 m a0 a1]
  refine go_in (s₁ := s₁) (Q := Q6 Z a0 a1 w_x_a0 w_x_a1 w_width_a1 w_width_a0 w_y_a0 w_y_a1 w_height_a1 w_height_a0 h0 n0) fun F hF => ?_
  refine go (B := s₁.setTop (mkF m 1 #[.val (.ref a0), .val (.ref a1)] [(.ref a0)])) (fun _ k => XS.aloadN X0.here hx rfl (hb hby d6_0) rfl rfl k) ?_
  obtain ⟨T1, X1, e1, st1⟩ := getF X0 hx hZ hown (host := "") (Or.inl (hw _ (List.mem_of_getElem? (i := 18) rfl))) Via.refl e0 F_x_a0 (g := (mkF m 1 #[.val (.ref a0), .val (.ref a1)] [(.ref a0)])) rfl rfl (hb hby d6_1)
  refine go (B := T1.setTop (mkF m 4 #[.val (.ref a0), .val (.ref a1)] [(.int w_x_a0)])) st1 ?_
  refine go (B := T1.setTop (mkF m 5 #[.val (.ref a0), .val (.ref a1)] [(.long (w_x_a0.toInt64))])) (fun _ k => XS.i2l X1.here hx rfl (hb hby d6_4) rfl k) ?_
  refine go (B := T1.setTop (mkF m 6 #[.val (.ref a0), .val (.ref a1)] [(.ref a1), (.long (w_x_a0.toInt64))])) (fun _ k => XS.aloadN X1.here hx rfl (hb hby d6_5) rfl rfl k) ?_
  obtain ⟨T2, X2, e2, st2⟩ := getF X1 hx hZ hown (host := "") (Or.inl (hw _ (List.mem_of_getElem? (i := 18) rfl))) Via.refl e1 F_x_a1 (g := (mkF m 6 #[.val (.ref a0), .val (.ref a1)] [(.ref a1), (.long (w_x_a0.toInt64))])) rfl rfl (hb hby d6_6)
  refine go (B := T2.setTop (mkF m 9 #[.val (.ref a0), .val (.ref a1)] [(.int w_x_a1), (.long (w_x_a0.toInt64))])) st2 ?_
  refine go (B := T2.setTop (mkF m 10 #[.val (.ref a0), .val (.ref a1)] [(.long (w_x_a1.toInt64)), (.long (w_x_a0.toInt64))])) (fun _ k => XS.i2l X2.here hx rfl (hb hby d6_9) rfl k) ?_
  refine go (B := T2.setTop (mkF m 11 #[.val (.ref a0), .val (.ref a1)] [(.ref a1), (.long (w_x_a1.toInt64)), (.long (w_x_a0.toInt64))])) (fun _ k => XS.aloadN X2.here hx rfl (hb hby d6_10) rfl rfl k) ?_
  obtain ⟨T3, X3, e3, st3⟩ := getF X2 hx hZ hown (host := "") (Or.inl (hw _ (List.mem_of_getElem? (i := 22) rfl))) Via.refl e2 F_width_a1 (g := (mkF m 11 #[.val (.ref a0), .val (.ref a1)] [(.ref a1), (.long (w_x_a1.toInt64)), (.long (w_x_a0.toInt64))])) rfl rfl (hb hby d6_11)
  refine go (B := T3.setTop (mkF m 14 #[.val (.ref a0), .val (.ref a1)] [(.int w_width_a1), (.long (w_x_a1.toInt64)), (.long (w_x_a0.toInt64))])) st3 ?_
  refine go (B := T3.setTop (mkF m 15 #[.val (.ref a0), .val (.ref a1)] [(.long (w_width_a1.toInt64)), (.long (w_x_a1.toInt64)), (.long (w_x_a0.toInt64))])) (fun _ k => XS.i2l X3.here hx rfl (hb hby d6_14) rfl k) ?_
  refine go (B := T3.setTop (mkF m 16 #[.val (.ref a0), .val (.ref a1)] [(.long ((w_x_a1.toInt64) + (w_width_a1.toInt64))), (.long (w_x_a0.toInt64))])) (fun _ k => XS.ladd X3.here hx rfl (hb hby d6_15) rfl k) ?_
  refine go (B := T3.setTop (mkF m 17 #[.val (.ref a0), .val (.ref a1)] [(.int (lcmpW (w_x_a0.toInt64) ((w_x_a1.toInt64) + (w_width_a1.toInt64))))])) (fun _ k => XS.lcmp X3.here hx rfl (hb hby d6_16) rfl k) ?_
  by_cases hc4 : (lcmpW (w_x_a0.toInt64) ((w_x_a1.toInt64) + (w_width_a1.toInt64))) < (0 : Int32)
  · refine go (B := T3.setTop (mkF m 20 #[.val (.ref a0), .val (.ref a1)] [])) (fun _ k => XS.ifNo X3.here hx rfl (hb hby d6_17) rfl ((if0 _ _).trans (tlt hc4).2.1) k) ?_
    refine go (B := T3.setTop (mkF m 21 #[.val (.ref a0), .val (.ref a1)] [(.ref a1)])) (fun _ k => XS.aloadN X3.here hx rfl (hb hby d6_20) rfl rfl k) ?_
    obtain ⟨T5, X5, e5, st5⟩ := getF X3 hx hZ hown (host := "") (Or.inl (hw _ (List.mem_of_getElem? (i := 18) rfl))) Via.refl e3 F_x_a1 (g := (mkF m 21 #[.val (.ref a0), .val (.ref a1)] [(.ref a1)])) rfl rfl (hb hby d6_21)
    refine go (B := T5.setTop (mkF m 24 #[.val (.ref a0), .val (.ref a1)] [(.int w_x_a1)])) st5 ?_
    refine go (B := T5.setTop (mkF m 25 #[.val (.ref a0), .val (.ref a1)] [(.long (w_x_a1.toInt64))])) (fun _ k => XS.i2l X5.here hx rfl (hb hby d6_24) rfl k) ?_
    refine go (B := T5.setTop (mkF m 26 #[.val (.ref a0), .val (.ref a1)] [(.ref a0), (.long (w_x_a1.toInt64))])) (fun _ k => XS.aloadN X5.here hx rfl (hb hby d6_25) rfl rfl k) ?_
    obtain ⟨T6, X6, e6, st6⟩ := getF X5 hx hZ hown (host := "") (Or.inl (hw _ (List.mem_of_getElem? (i := 18) rfl))) Via.refl e5 F_x_a0 (g := (mkF m 26 #[.val (.ref a0), .val (.ref a1)] [(.ref a0), (.long (w_x_a1.toInt64))])) rfl rfl (hb hby d6_26)
    refine go (B := T6.setTop (mkF m 29 #[.val (.ref a0), .val (.ref a1)] [(.int w_x_a0), (.long (w_x_a1.toInt64))])) st6 ?_
    refine go (B := T6.setTop (mkF m 30 #[.val (.ref a0), .val (.ref a1)] [(.long (w_x_a0.toInt64)), (.long (w_x_a1.toInt64))])) (fun _ k => XS.i2l X6.here hx rfl (hb hby d6_29) rfl k) ?_
    refine go (B := T6.setTop (mkF m 31 #[.val (.ref a0), .val (.ref a1)] [(.ref a0), (.long (w_x_a0.toInt64)), (.long (w_x_a1.toInt64))])) (fun _ k => XS.aloadN X6.here hx rfl (hb hby d6_30) rfl rfl k) ?_
    obtain ⟨T7, X7, e7, st7⟩ := getF X6 hx hZ hown (host := "") (Or.inl (hw _ (List.mem_of_getElem? (i := 22) rfl))) Via.refl e6 F_width_a0 (g := (mkF m 31 #[.val (.ref a0), .val (.ref a1)] [(.ref a0), (.long (w_x_a0.toInt64)), (.long (w_x_a1.toInt64))])) rfl rfl (hb hby d6_31)
    refine go (B := T7.setTop (mkF m 34 #[.val (.ref a0), .val (.ref a1)] [(.int w_width_a0), (.long (w_x_a0.toInt64)), (.long (w_x_a1.toInt64))])) st7 ?_
    refine go (B := T7.setTop (mkF m 35 #[.val (.ref a0), .val (.ref a1)] [(.long (w_width_a0.toInt64)), (.long (w_x_a0.toInt64)), (.long (w_x_a1.toInt64))])) (fun _ k => XS.i2l X7.here hx rfl (hb hby d6_34) rfl k) ?_
    refine go (B := T7.setTop (mkF m 36 #[.val (.ref a0), .val (.ref a1)] [(.long ((w_x_a0.toInt64) + (w_width_a0.toInt64))), (.long (w_x_a1.toInt64))])) (fun _ k => XS.ladd X7.here hx rfl (hb hby d6_35) rfl k) ?_
    refine go (B := T7.setTop (mkF m 37 #[.val (.ref a0), .val (.ref a1)] [(.int (lcmpW (w_x_a1.toInt64) ((w_x_a0.toInt64) + (w_width_a0.toInt64))))])) (fun _ k => XS.lcmp X7.here hx rfl (hb hby d6_36) rfl k) ?_
    by_cases hc8 : (lcmpW (w_x_a1.toInt64) ((w_x_a0.toInt64) + (w_width_a0.toInt64))) < (0 : Int32)
    · refine go (B := T7.setTop (mkF m 40 #[.val (.ref a0), .val (.ref a1)] [])) (fun _ k => XS.ifNo X7.here hx rfl (hb hby d6_37) rfl ((if0 _ _).trans (tlt hc8).2.1) k) ?_
      refine go (B := T7.setTop (mkF m 41 #[.val (.ref a0), .val (.ref a1)] [(.ref a0)])) (fun _ k => XS.aloadN X7.here hx rfl (hb hby d6_40) rfl rfl k) ?_
      obtain ⟨T9, X9, e9, st9⟩ := getF X7 hx hZ hown (host := "") (Or.inl (hw _ (List.mem_of_getElem? (i := 20) rfl))) Via.refl e7 F_y_a0 (g := (mkF m 41 #[.val (.ref a0), .val (.ref a1)] [(.ref a0)])) rfl rfl (hb hby d6_41)
      refine go (B := T9.setTop (mkF m 44 #[.val (.ref a0), .val (.ref a1)] [(.int w_y_a0)])) st9 ?_
      refine go (B := T9.setTop (mkF m 45 #[.val (.ref a0), .val (.ref a1)] [(.long (w_y_a0.toInt64))])) (fun _ k => XS.i2l X9.here hx rfl (hb hby d6_44) rfl k) ?_
      refine go (B := T9.setTop (mkF m 46 #[.val (.ref a0), .val (.ref a1)] [(.ref a1), (.long (w_y_a0.toInt64))])) (fun _ k => XS.aloadN X9.here hx rfl (hb hby d6_45) rfl rfl k) ?_
      obtain ⟨T10, X10, e10, st10⟩ := getF X9 hx hZ hown (host := "") (Or.inl (hw _ (List.mem_of_getElem? (i := 20) rfl))) Via.refl e9 F_y_a1 (g := (mkF m 46 #[.val (.ref a0), .val (.ref a1)] [(.ref a1), (.long (w_y_a0.toInt64))])) rfl rfl (hb hby d6_46)
      refine go (B := T10.setTop (mkF m 49 #[.val (.ref a0), .val (.ref a1)] [(.int w_y_a1), (.long (w_y_a0.toInt64))])) st10 ?_
      refine go (B := T10.setTop (mkF m 50 #[.val (.ref a0), .val (.ref a1)] [(.long (w_y_a1.toInt64)), (.long (w_y_a0.toInt64))])) (fun _ k => XS.i2l X10.here hx rfl (hb hby d6_49) rfl k) ?_
      refine go (B := T10.setTop (mkF m 51 #[.val (.ref a0), .val (.ref a1)] [(.ref a1), (.long (w_y_a1.toInt64)), (.long (w_y_a0.toInt64))])) (fun _ k => XS.aloadN X10.here hx rfl (hb hby d6_50) rfl rfl k) ?_
      obtain ⟨T11, X11, e11, st11⟩ := getF X10 hx hZ hown (host := "") (Or.inl (hw _ (List.mem_of_getElem? (i := 24) rfl))) Via.refl e10 F_height_a1 (g := (mkF m 51 #[.val (.ref a0), .val (.ref a1)] [(.ref a1), (.long (w_y_a1.toInt64)), (.long (w_y_a0.toInt64))])) rfl rfl (hb hby d6_51)
      refine go (B := T11.setTop (mkF m 54 #[.val (.ref a0), .val (.ref a1)] [(.int w_height_a1), (.long (w_y_a1.toInt64)), (.long (w_y_a0.toInt64))])) st11 ?_
      refine go (B := T11.setTop (mkF m 55 #[.val (.ref a0), .val (.ref a1)] [(.long (w_height_a1.toInt64)), (.long (w_y_a1.toInt64)), (.long (w_y_a0.toInt64))])) (fun _ k => XS.i2l X11.here hx rfl (hb hby d6_54) rfl k) ?_
      refine go (B := T11.setTop (mkF m 56 #[.val (.ref a0), .val (.ref a1)] [(.long ((w_y_a1.toInt64) + (w_height_a1.toInt64))), (.long (w_y_a0.toInt64))])) (fun _ k => XS.ladd X11.here hx rfl (hb hby d6_55) rfl k) ?_
      refine go (B := T11.setTop (mkF m 57 #[.val (.ref a0), .val (.ref a1)] [(.int (lcmpW (w_y_a0.toInt64) ((w_y_a1.toInt64) + (w_height_a1.toInt64))))])) (fun _ k => XS.lcmp X11.here hx rfl (hb hby d6_56) rfl k) ?_
      by_cases hc12 : (lcmpW (w_y_a0.toInt64) ((w_y_a1.toInt64) + (w_height_a1.toInt64))) < (0 : Int32)
      · refine go (B := T11.setTop (mkF m 60 #[.val (.ref a0), .val (.ref a1)] [])) (fun _ k => XS.ifNo X11.here hx rfl (hb hby d6_57) rfl ((if0 _ _).trans (tlt hc12).2.1) k) ?_
        refine go (B := T11.setTop (mkF m 61 #[.val (.ref a0), .val (.ref a1)] [(.ref a1)])) (fun _ k => XS.aloadN X11.here hx rfl (hb hby d6_60) rfl rfl k) ?_
        obtain ⟨T13, X13, e13, st13⟩ := getF X11 hx hZ hown (host := "") (Or.inl (hw _ (List.mem_of_getElem? (i := 20) rfl))) Via.refl e11 F_y_a1 (g := (mkF m 61 #[.val (.ref a0), .val (.ref a1)] [(.ref a1)])) rfl rfl (hb hby d6_61)
        refine go (B := T13.setTop (mkF m 64 #[.val (.ref a0), .val (.ref a1)] [(.int w_y_a1)])) st13 ?_
        refine go (B := T13.setTop (mkF m 65 #[.val (.ref a0), .val (.ref a1)] [(.long (w_y_a1.toInt64))])) (fun _ k => XS.i2l X13.here hx rfl (hb hby d6_64) rfl k) ?_
        refine go (B := T13.setTop (mkF m 66 #[.val (.ref a0), .val (.ref a1)] [(.ref a0), (.long (w_y_a1.toInt64))])) (fun _ k => XS.aloadN X13.here hx rfl (hb hby d6_65) rfl rfl k) ?_
        obtain ⟨T14, X14, e14, st14⟩ := getF X13 hx hZ hown (host := "") (Or.inl (hw _ (List.mem_of_getElem? (i := 20) rfl))) Via.refl e13 F_y_a0 (g := (mkF m 66 #[.val (.ref a0), .val (.ref a1)] [(.ref a0), (.long (w_y_a1.toInt64))])) rfl rfl (hb hby d6_66)
        refine go (B := T14.setTop (mkF m 69 #[.val (.ref a0), .val (.ref a1)] [(.int w_y_a0), (.long (w_y_a1.toInt64))])) st14 ?_
        refine go (B := T14.setTop (mkF m 70 #[.val (.ref a0), .val (.ref a1)] [(.long (w_y_a0.toInt64)), (.long (w_y_a1.toInt64))])) (fun _ k => XS.i2l X14.here hx rfl (hb hby d6_69) rfl k) ?_
        refine go (B := T14.setTop (mkF m 71 #[.val (.ref a0), .val (.ref a1)] [(.ref a0), (.long (w_y_a0.toInt64)), (.long (w_y_a1.toInt64))])) (fun _ k => XS.aloadN X14.here hx rfl (hb hby d6_70) rfl rfl k) ?_
        obtain ⟨T15, X15, e15, st15⟩ := getF X14 hx hZ hown (host := "") (Or.inl (hw _ (List.mem_of_getElem? (i := 24) rfl))) Via.refl e14 F_height_a0 (g := (mkF m 71 #[.val (.ref a0), .val (.ref a1)] [(.ref a0), (.long (w_y_a0.toInt64)), (.long (w_y_a1.toInt64))])) rfl rfl (hb hby d6_71)
        refine go (B := T15.setTop (mkF m 74 #[.val (.ref a0), .val (.ref a1)] [(.int w_height_a0), (.long (w_y_a0.toInt64)), (.long (w_y_a1.toInt64))])) st15 ?_
        refine go (B := T15.setTop (mkF m 75 #[.val (.ref a0), .val (.ref a1)] [(.long (w_height_a0.toInt64)), (.long (w_y_a0.toInt64)), (.long (w_y_a1.toInt64))])) (fun _ k => XS.i2l X15.here hx rfl (hb hby d6_74) rfl k) ?_
        refine go (B := T15.setTop (mkF m 76 #[.val (.ref a0), .val (.ref a1)] [(.long ((w_y_a0.toInt64) + (w_height_a0.toInt64))), (.long (w_y_a1.toInt64))])) (fun _ k => XS.ladd X15.here hx rfl (hb hby d6_75) rfl k) ?_
        refine go (B := T15.setTop (mkF m 77 #[.val (.ref a0), .val (.ref a1)] [(.int (lcmpW (w_y_a1.toInt64) ((w_y_a0.toInt64) + (w_height_a0.toInt64))))])) (fun _ k => XS.lcmp X15.here hx rfl (hb hby d6_76) rfl k) ?_
        by_cases hc16 : (lcmpW (w_y_a1.toInt64) ((w_y_a0.toInt64) + (w_height_a0.toInt64))) < (0 : Int32)
        · refine go (B := T15.setTop (mkF m 80 #[.val (.ref a0), .val (.ref a1)] [])) (fun _ k => XS.ifNo X15.here hx rfl (hb hby d6_77) rfl ((if0 _ _).trans (tlt hc16).2.1) k) ?_
          refine go (B := T15.setTop (mkF m 81 #[.val (.ref a0), .val (.ref a1)] [(.int (1 : Int32))])) (fun _ k => XS.iconst X15.here hx rfl (hb hby d6_80) k) ?_
          refine go (B := T15.setTop (mkF m 85 #[.val (.ref a0), .val (.ref a1)] [(.int (1 : Int32))])) (fun _ k => XS.goto X15.here hx rfl (pc0 := 81) (pc' := 85) rfl (hb hby d6_81) (by decide) (by decide) k) ?_
          have r17 : (f6 w_x_a0 w_x_a1 w_width_a1 w_width_a0 w_y_a0 w_y_a1 w_height_a1 w_height_a0) = (1 : Int32) := by unfold f6; rw [if_pos hc4, if_pos hc8, if_pos hc12, if_pos hc16]
          exact end_nar X15 hx Bd.notSynchronized (t := .boolean) Bd.returns (by simp) (hb hby d6_85) hF e15 (by decide) (by decide) ⟨(congrArg (fun z => some (Value.int z)) r17.symm), rfl, rfl⟩
        · refine go (B := T15.setTop (mkF m 84 #[.val (.ref a0), .val (.ref a1)] [])) (fun _ k => XS.ifYes X15.here hx rfl (pc0 := 77) (pc' := 84) rfl (hb hby d6_77) rfl ((if0 _ _).trans (flt hc16).2.1) (by decide) (by decide) k) ?_
          refine go (B := T15.setTop (mkF m 85 #[.val (.ref a0), .val (.ref a1)] [(.int (0 : Int32))])) (fun _ k => XS.iconst X15.here hx rfl (hb hby d6_84) k) ?_
          have r18 : (f6 w_x_a0 w_x_a1 w_width_a1 w_width_a0 w_y_a0 w_y_a1 w_height_a1 w_height_a0) = (0 : Int32) := by unfold f6; rw [if_pos hc4, if_pos hc8, if_pos hc12, if_neg hc16]
          exact end_nar X15 hx Bd.notSynchronized (t := .boolean) Bd.returns (by simp) (hb hby d6_85) hF e15 (by decide) (by decide) ⟨(congrArg (fun z => some (Value.int z)) r18.symm), rfl, rfl⟩
      · refine go (B := T11.setTop (mkF m 84 #[.val (.ref a0), .val (.ref a1)] [])) (fun _ k => XS.ifYes X11.here hx rfl (pc0 := 57) (pc' := 84) rfl (hb hby d6_57) rfl ((if0 _ _).trans (flt hc12).2.1) (by decide) (by decide) k) ?_
        refine go (B := T11.setTop (mkF m 85 #[.val (.ref a0), .val (.ref a1)] [(.int (0 : Int32))])) (fun _ k => XS.iconst X11.here hx rfl (hb hby d6_84) k) ?_
        have r19 : (f6 w_x_a0 w_x_a1 w_width_a1 w_width_a0 w_y_a0 w_y_a1 w_height_a1 w_height_a0) = (0 : Int32) := by unfold f6; rw [if_pos hc4, if_pos hc8, if_neg hc12]
        exact end_nar X11 hx Bd.notSynchronized (t := .boolean) Bd.returns (by simp) (hb hby d6_85) hF e11 (by decide) (by decide) ⟨(congrArg (fun z => some (Value.int z)) r19.symm), rfl, rfl⟩
    · refine go (B := T7.setTop (mkF m 84 #[.val (.ref a0), .val (.ref a1)] [])) (fun _ k => XS.ifYes X7.here hx rfl (pc0 := 37) (pc' := 84) rfl (hb hby d6_37) rfl ((if0 _ _).trans (flt hc8).2.1) (by decide) (by decide) k) ?_
      refine go (B := T7.setTop (mkF m 85 #[.val (.ref a0), .val (.ref a1)] [(.int (0 : Int32))])) (fun _ k => XS.iconst X7.here hx rfl (hb hby d6_84) k) ?_
      have r20 : (f6 w_x_a0 w_x_a1 w_width_a1 w_width_a0 w_y_a0 w_y_a1 w_height_a1 w_height_a0) = (0 : Int32) := by unfold f6; rw [if_pos hc4, if_neg hc8]
      exact end_nar X7 hx Bd.notSynchronized (t := .boolean) Bd.returns (by simp) (hb hby d6_85) hF e7 (by decide) (by decide) ⟨(congrArg (fun z => some (Value.int z)) r20.symm), rfl, rfl⟩
  · refine go (B := T3.setTop (mkF m 84 #[.val (.ref a0), .val (.ref a1)] [])) (fun _ k => XS.ifYes X3.here hx rfl (pc0 := 17) (pc' := 84) rfl (hb hby d6_17) rfl ((if0 _ _).trans (flt hc4).2.1) (by decide) (by decide) k) ?_
    refine go (B := T3.setTop (mkF m 85 #[.val (.ref a0), .val (.ref a1)] [(.int (0 : Int32))])) (fun _ k => XS.iconst X3.here hx rfl (hb hby d6_84) k) ?_
    have r21 : (f6 w_x_a0 w_x_a1 w_width_a1 w_width_a0 w_y_a0 w_y_a1 w_height_a1 w_height_a0) = (0 : Int32) := by unfold f6; rw [if_neg hc4]
    exact end_nar X3 hx Bd.notSynchronized (t := .boolean) Bd.returns (by simp) (hb hby d6_85) hF e3 (by decide) (by decide) ⟨(congrArg (fun z => some (Value.int z)) r21.symm), rfl, rfl⟩
theorem pd_1 : parseMethodDescriptor "(I)I" = some ⟨[.int], some .int⟩ := by decide +kernel
theorem pd_2 : parseMethodDescriptor "(IIII)V" = some ⟨[.int, .int, .int, .int], none⟩ := by decide +kernel
theorem pd_3 : parseMethodDescriptor "(II)Z" = some ⟨[.int, .int], some .boolean⟩ := by decide +kernel
theorem pd_4 : parseMethodDescriptor "(Lcom/example/fenced_widget/fencedwidget/fence/Bounds;)Z" = some ⟨[(.object "com/example/fenced_widget/fencedwidget/fence/Bounds")], some .boolean⟩ := by decide +kernel
theorem ef_0 (m : MethodId) (p0 : Int32) (p1 : Int32) (p2 : Int32) (p3 : Int32) (q4 : Int64) (q5 : Int64) : entryFrame m #[(.int p0), (.int p1), (.int p2), (.int p3), (.long q4), (.long q5)] maxLocals = mkF m 0 #[.val (.int p0), .val (.int p1), .val (.int p2), .val (.int p3), .val (.long q4), .second, .val (.long q5), .second, .unset, .unset, .unset, .unset, .unset, .unset, .unset, .unset, .unset, .unset, .unset] [] := by first | (simp [entryFrame, mkF, argsToLocals, Value.category, maxLocals]; done) | rfl
def f0_t0 (p0 : Int32) (p1 : Int32) (p2 : Int32) (p3 : Int32) (q4 : Int64) : Int32 := (f5 (f2 p0 p2) (f2 p1 p3) p0 (f1 (q4.toInt32)) p1 (f1 (((q4.toUInt64 >>> ((32 : Int32) &&& 0x3f).toInt64.toUInt64).toInt64).toInt32)))
def f0_t1 (p0 : Int32) (p1 : Int32) (p2 : Int32) (p3 : Int32) (q5 : Int64) : Int32 := (f5 (f2 p0 p2) (f2 p1 p3) p2 (f1 (q5.toInt32)) p3 (f1 (((q5.toUInt64 >>> ((32 : Int32) &&& 0x3f).toInt64.toUInt64).toInt64).toInt32)))
def f0_z2 (p0 : Int32) (p1 : Int32) (p2 : Int32) (p3 : Int32) (q4 : Int64) (q5 : Int64) : Int32 := if (f0_t0 p0 p1 p2 p3 q4) = (0 : Int32) then (0 : Int32) else if (f0_t1 p0 p1 p2 p3 q5) = (0 : Int32) then (0 : Int32) else (1 : Int32)
def f0_t3 (p0 : Int32) (p1 : Int32) (p2 : Int32) (p3 : Int32) (q4 : Int64) (q5 : Int64) : Int32 := (f6 p0 p2 (f1 (q5.toInt32)) (f1 (q4.toInt32)) p1 p3 (f1 (((q5.toUInt64 >>> ((32 : Int32) &&& 0x3f).toInt64.toUInt64).toInt64).toInt32)) (f1 (((q4.toUInt64 >>> ((32 : Int32) &&& 0x3f).toInt64.toUInt64).toInt64).toInt32)))
def f0_t4 (p0 : Int32) (p1 : Int32) (p2 : Int32) (p3 : Int32) (q4 : Int64) (q5 : Int64) : Int32 := (f6 p2 p0 (f1 (q4.toInt32)) (f1 (q5.toInt32)) p3 p1 (f1 (((q4.toUInt64 >>> ((32 : Int32) &&& 0x3f).toInt64.toUInt64).toInt64).toInt32)) (f1 (((q5.toUInt64 >>> ((32 : Int32) &&& 0x3f).toInt64.toUInt64).toInt64).toInt32)))
def f0 (p0 : Int32) (p1 : Int32) (p2 : Int32) (p3 : Int32) (q4 : Int64) (q5 : Int64) : Int32 := if (f0_t3 p0 p1 p2 p3 q4 q5) = (f0_z2 p0 p1 p2 p3 q4 q5) then if (f0_t4 p0 p1 p2 p3 q4 q5) = (f0_z2 p0 p1 p2 p3 q4 q5) then (1 : Int32) else (0 : Int32) else (0 : Int32)
theorem own_bd (x : Int32) : -2147483648 ≤ x.toInt ∧ x.toInt ≤ 2147483647 := ⟨Int32.le_toInt x, by have := Int32.toInt_lt x; omega⟩
theorem own_wide (x : Int32) : x.toInt64.toInt = x.toInt := Int32.toInt_toInt64 x
theorem own_add (x y : Int32) : (x.toInt64 + y.toInt64).toInt = x.toInt + y.toInt := by
  have := own_bd x; have := own_bd y
  rw [Int64.toInt_add, own_wide, own_wide]
  exact Int.bmod_eq_of_le (by omega) (by omega)
theorem own_sub (x y : Int32) : (x.toInt64 - y.toInt64).toInt = x.toInt - y.toInt := by
  have := own_bd x; have := own_bd y
  rw [Int64.toInt_sub, own_wide, own_wide]
  exact Int.bmod_eq_of_le (by omega) (by omega)
theorem own_max (a b : Int32) : (f2 a b).toInt = max a.toInt b.toInt := by
  unfold f2
  by_cases h : a < b
  · rw [if_pos h]; rw [Int32.lt_iff_toInt_lt] at h; omega
  · rw [if_neg h]; rw [Int32.lt_iff_toInt_lt] at h; omega
theorem own_pos (x : Int32) : 1 ≤ (f1 x).toInt := by
  unfold f1; rw [own_max, show (1 : Int32).toInt = 1 from rfl]; omega
theorem own_f5 (p1 p2 x w y h : Int32) : f5 p1 p2 x w y h = if (x.toInt ≤ p1.toInt ∧ p1.toInt < x.toInt + w.toInt) ∧ (y.toInt ≤ p2.toInt ∧ p2.toInt < y.toInt + h.toInt) then 1 else 0 := by
  simp only [f5, lw_lt, lw_gt]
  simp only [Int64.lt_iff_toInt_lt, Int32.lt_iff_toInt_lt, own_sub, own_wide]
  repeat' split
  all_goals first | rfl | (exfalso; omega)
theorem own_f6 (x0 x1 w1 w0 y0 y1 h1 h0 : Int32) : f6 x0 x1 w1 w0 y0 y1 h1 h0 = if (x0.toInt < x1.toInt + w1.toInt ∧ x1.toInt < x0.toInt + w0.toInt) ∧ (y0.toInt < y1.toInt + h1.toInt ∧ y1.toInt < y0.toInt + h0.toInt) then 1 else 0 := by
  simp only [f6, lw_lt, lw_gt]
  simp only [Int64.lt_iff_toInt_lt, Int32.lt_iff_toInt_lt, own_add, own_wide]
  repeat' split
  all_goals first | rfl | (exfalso; omega)
theorem own_law (p0 p1 p2 p3 : Int32) (q4 q5 : Int64) : f0 p0 p1 p2 p3 q4 q5 = 1 := by
  unfold f0 f0_z2 f0_t0 f0_t1 f0_t3 f0_t4
  have a1 := own_pos (q4.toInt32)
  have a2 := own_pos (q5.toInt32)
  have a3 := own_pos (((q4.toUInt64 >>> ((32 : Int32) &&& 0x3f).toInt64.toUInt64).toInt64).toInt32)
  have a4 := own_pos (((q5.toUInt64 >>> ((32 : Int32) &&& 0x3f).toInt64.toUInt64).toInt64).toInt32)
  generalize f1 (q4.toInt32) = w1 at *
  generalize f1 (q5.toInt32) = w2 at *
  generalize f1 (((q4.toUInt64 >>> ((32 : Int32) &&& 0x3f).toInt64.toUInt64).toInt64).toInt32) = h1 at *
  generalize f1 (((q5.toUInt64 >>> ((32 : Int32) &&& 0x3f).toInt64.toUInt64).toInt64).toInt32) = h2 at *
  rw [own_f5, own_f5, own_f6, own_f6, own_max, own_max]
  generalize p0.toInt = x1 at *; generalize p1.toInt = y1 at *; generalize p2.toInt = x2 at *; generalize p3.toInt = y2 at *
  generalize w1.toInt = v1 at *; generalize w2.toInt = v2 at *; generalize h1.toInt = u1 at *; generalize h2.toInt = u2 at *
  by_cases c : (x2 < x1 + v1 ∧ x1 < x2 + v2) ∧ (y2 < y1 + u1 ∧ y1 < y2 + u2)
  · have d1 : (x1 ≤ max x1 x2 ∧ max x1 x2 < x1 + v1) ∧ y1 ≤ max y1 y2 ∧ max y1 y2 < y1 + u1 := by omega
    have d2 : (x2 ≤ max x1 x2 ∧ max x1 x2 < x2 + v2) ∧ y2 ≤ max y1 y2 ∧ max y1 y2 < y2 + u2 := by omega
    have c' : (x1 < x2 + v2 ∧ x2 < x1 + v1) ∧ (y1 < y2 + u2 ∧ y2 < y1 + u1) := by omega
    rw [if_pos c, if_pos c', if_pos d1, if_pos d2]; rfl
  · have c' : ¬ ((x1 < x2 + v2 ∧ x2 < x1 + v1) ∧ (y1 < y2 + u2 ∧ y2 < y1 + u1)) := by omega
    rw [if_neg c, if_neg c']
    by_cases d1 : (x1 ≤ max x1 x2 ∧ max x1 x2 < x1 + v1) ∧ y1 ≤ max y1 y2 ∧ max y1 y2 < y1 + u1
    · have d2 : ¬ ((x2 ≤ max x1 x2 ∧ max x1 x2 < x2 + v2) ∧ y2 ≤ max y1 y2 ∧ max y1 y2 < y2 + u2) := by omega
      rw [if_pos d1, if_neg d2]; rfl
    · rw [if_neg d1]; rfl
def Q0 (Z : State) (p0 : Int32) (p1 : Int32) (p2 : Int32) (p3 : Int32) (q4 : Int64) (q5 : Int64) (h0 : Heap) (n0 : Nat) (v : Option Value) (h : Heap) (L : List Loc) : Prop := v = some (.int (1 : Int32)) ∧ Fr n0 L
set_option maxRecDepth 65536 in
set_option maxHeartbeats 40000000 in
theorem rm0 (l : Launch) (Z : State) (aw : Array Value) (hw : ∀ d ∈ tables_1, d.before aw Z = true) (ws : List Jvm.Cond) (p0 : Int32) (p1 : Int32) (p2 : Int32) (p3 : Int32) (q4 : Int64) (q5 : Int64) (h0 : Heap) (n0 : Nat) (Z0 : n0 ≤ h0.size) :
    MetFree l x (head1 (Jvm.Cond.code x code maxLocals ret :: ws) room_1) (fun a U => a = #[(.int p0), (.int p1), (.int p2), (.int p3), (.long q4), (.long q5)] ∧ Z.Warmed39 U.vm ∧ U.heap = h0) (fun _ _ _ _ _ => True) (fun _ U o U' => ∃ v L, o = .returned v ∧ Q0 Z p0 p1 p2 p3 q4 q5 h0 n0 v U'.heap L ∧ FrameEnd U o U' L room_1.cells room_1.slots) := by
  refine MetFree.of_bodySF (plainFor_of_name pn_1) hisR ?_
  intro p e s m args below meth c s₁ Bd hml0 hP hK
  obtain ⟨rfl, hZ, hh⟩ := hP
  have hx := Bd.exec
  have hby := Bd.bytes
  have hml : c.maxLocals = 19 := hml0
  have hown : s.vm.findClass "com/example/fenced_widget/fencedwidget/fence/BoundsOverlapsPinLaw" = some m.cls := findClass_of_methodNamed Bd.named
  have hnm := (name_of_methodNamed Bd.named Bd.method).1
  have X0 : Stand p l e room_1 s m #[(.int p0), (.int p1), (.int p2), (.int p3), (.long q4), (.long q5)] below meth c s₁ [] 0 0 := Stand.of_body Bd
  have e0 : s₁.heap = h0 := by rw [← hh, Bd.state]; rfl
  have N0 := Fr.nil n0
  rw [ef_0 m p0 p1 p2 p3 q4 q5]
  refine go_in (s₁ := s₁) (Q := Q0 Z p0 p1 p2 p3 q4 q5 h0 n0) fun F hF => ?_
  refine go (B := s₁.setTop (mkF m 2 #[.val (.int p0), .val (.int p1), .val (.int p2), .val (.int p3), .val (.long q4), .second, .val (.long q5), .second, .unset, .unset, .unset, .unset, .unset, .unset, .unset, .unset, .unset, .unset, .unset] [(.long q4)])) (fun _ k => XS.lload X0.here hx rfl (hb hby at_0) rfl k) ?_
  refine go (B := s₁.setTop (mkF m 3 #[.val (.int p0), .val (.int p1), .val (.int p2), .val (.int p3), .val (.long q4), .second, .val (.long q5), .second, .unset, .unset, .unset, .unset, .unset, .unset, .unset, .unset, .unset, .unset, .unset] [(.int (q4.toInt32))])) (fun _ k => XS.l2i X0.here hx rfl (hb hby at_2) rfl k) ?_
  obtain ⟨_, _, ⟨T1, L1, k1, n1⟩, -, X1, ⟨Lc1, hQ1, l1, y1, z1⟩, st1⟩ := Jvm.LawKit.callS X0 hx (y := (⟨"com/example/fenced_widget/fencedwidget/fence/BoundsOverlapsPinLaw", "size", "(I)I"⟩ : MethodName)) hown (mvT hZ (hw _ (List.mem_of_getElem? (i := 0) rfl))) (mvT hZ (hw _ (List.mem_of_getElem? (i := 1) rfl))) (mvT hZ (hw _ (List.mem_of_getElem? (i := 2) rfl))) (mvT hZ (hw _ (List.mem_of_getElem? (i := 3) rfl))) (by decide) (backOf (W := 0) (rm1 l Z aw hw [] (q4.toInt32) h0 n0 Z0 ) hZ (hw _ (List.mem_of_getElem? (i := 3) rfl)) (hw _ (List.mem_of_getElem? (i := 2) rfl)) (by decide) (by decide)) (g := (mkF m 3 #[.val (.int p0), .val (.int p1), .val (.int p2), .val (.int p3), .val (.long q4), .second, .val (.long q5), .second, .unset, .unset, .unset, .unset, .unset, .unset, .unset, .unset, .unset, .unset, .unset] [(.int (q4.toInt32))])) rfl (by rw [hml]; rfl) (argsL := [(.int (q4.toInt32))]) (rest := []) (lenOf pd_1 rfl) rfl (by show 2 * 0 + _ ≤ _; exact Nat.le_of_eq rfl) (hb hby at_3) (fun _ _ => ⟨rfl, e0, (by decide : 0 + 0 ≤ _), (by decide : 0 + 0 ≤ _)⟩)
  dsimp only [Pt.U, Pt.locs, Pt.cells, Pt.slots] at X1 l1 y1 z1 st1 hQ1
  subst l1 y1 z1
  obtain ⟨rfl, rfl, e1⟩ := hQ1
  have N1 := Fr.app N0 (Fr.nil n0)
  refine go (B := T1.setTop (mkF m 6 #[.val (.int p0), .val (.int p1), .val (.int p2), .val (.int p3), .val (.long q4), .second, .val (.long q5), .second, .unset, .unset, .unset, .unset, .unset, .unset, .unset, .unset, .unset, .unset, .unset] [(.int (f1 (q4.toInt32)))])) (fun _ k => st1 _ k) ?_
  refine go (B := T1.setTop (mkF m 8 #[.val (.int p0), .val (.int p1), .val (.int p2), .val (.int p3), .val (.long q4), .second, .val (.long q5), .second, .val (.int (f1 (q4.toInt32))), .unset, .unset, .unset, .unset, .unset, .unset, .unset, .unset, .unset, .unset] [])) (fun _ k => XS.istore X1.here hx rfl (hb hby at_6) rfl (l' := #[.val (.int p0), .val (.int p1), .val (.int p2), .val (.int p3), .val (.long q4), .second, .val (.long q5), .second, .val (.int (f1 (q4.toInt32))), .unset, .unset, .unset, .unset, .unset, .unset, .unset, .unset, .unset, .unset]) rfl k) ?_
  refine go (B := T1.setTop (mkF m 10 #[.val (.int p0), .val (.int p1), .val (.int p2), .val (.int p3), .val (.long q4), .second, .val (.long q5), .second, .val (.int (f1 (q4.toInt32))), .unset, .unset, .unset, .unset, .unset, .unset, .unset, .unset, .unset, .unset] [(.long q4)])) (fun _ k => XS.lload X1.here hx rfl (hb hby at_8) rfl k) ?_
  refine go (B := T1.setTop (mkF m 12 #[.val (.int p0), .val (.int p1), .val (.int p2), .val (.int p3), .val (.long q4), .second, .val (.long q5), .second, .val (.int (f1 (q4.toInt32))), .unset, .unset, .unset, .unset, .unset, .unset, .unset, .unset, .unset, .unset] [(.int (32 : Int32)), (.long q4)])) (fun _ k => XS.bipush X1.here hx rfl (hb hby at_10) k) ?_
  refine go (B := T1.setTop (mkF m 13 #[.val (.int p0), .val (.int p1), .val (.int p2), .val (.int p3), .val (.long q4), .second, .val (.long q5), .second, .val (.int (f1 (q4.toInt32))), .unset, .unset, .unset, .unset, .unset, .unset, .unset, .unset, .unset, .unset] [(.long ((q4.toUInt64 >>> ((32 : Int32) &&& 0x3f).toInt64.toUInt64).toInt64))])) (fun _ k => XS.lushr X1.here hx rfl (hb hby at_12) rfl k) ?_
  refine go (B := T1.setTop (mkF m 14 #[.val (.int p0), .val (.int p1), .val (.int p2), .val (.int p3), .val (.long q4), .second, .val (.long q5), .second, .val (.int (f1 (q4.toInt32))), .unset, .unset, .unset, .unset, .unset, .unset, .unset, .unset, .unset, .unset] [(.int (((q4.toUInt64 >>> ((32 : Int32) &&& 0x3f).toInt64.toUInt64).toInt64).toInt32))])) (fun _ k => XS.l2i X1.here hx rfl (hb hby at_13) rfl k) ?_
  obtain ⟨_, _, ⟨T2, L2, k2, n2⟩, -, X2, ⟨Lc2, hQ2, l2, y2, z2⟩, st2⟩ := Jvm.LawKit.callS X1 hx (y := (⟨"com/example/fenced_widget/fencedwidget/fence/BoundsOverlapsPinLaw", "size", "(I)I"⟩ : MethodName)) hown (mvT hZ (hw _ (List.mem_of_getElem? (i := 0) rfl))) (mvT hZ (hw _ (List.mem_of_getElem? (i := 1) rfl))) (mvT hZ (hw _ (List.mem_of_getElem? (i := 2) rfl))) (mvT hZ (hw _ (List.mem_of_getElem? (i := 3) rfl))) (by decide) (backOf (W := 0) (rm1 l Z aw hw [] (((q4.toUInt64 >>> ((32 : Int32) &&& 0x3f).toInt64.toUInt64).toInt64).toInt32) h0 n0 Z0 ) hZ (hw _ (List.mem_of_getElem? (i := 3) rfl)) (hw _ (List.mem_of_getElem? (i := 2) rfl)) (by decide) (by decide)) (g := (mkF m 14 #[.val (.int p0), .val (.int p1), .val (.int p2), .val (.int p3), .val (.long q4), .second, .val (.long q5), .second, .val (.int (f1 (q4.toInt32))), .unset, .unset, .unset, .unset, .unset, .unset, .unset, .unset, .unset, .unset] [(.int (((q4.toUInt64 >>> ((32 : Int32) &&& 0x3f).toInt64.toUInt64).toInt64).toInt32))])) rfl (by rw [hml]; rfl) (argsL := [(.int (((q4.toUInt64 >>> ((32 : Int32) &&& 0x3f).toInt64.toUInt64).toInt64).toInt32))]) (rest := []) (lenOf pd_1 rfl) rfl (by show 2 * 0 + _ ≤ _; exact Nat.le_of_eq rfl) (hb hby at_14) (fun _ _ => ⟨rfl, e1, (by decide : 0 + 0 ≤ _), (by decide : 0 + 0 ≤ _)⟩)
  dsimp only [Pt.U, Pt.locs, Pt.cells, Pt.slots] at X2 l2 y2 z2 st2 hQ2
  subst l2 y2 z2
  obtain ⟨rfl, rfl, e2⟩ := hQ2
  have N2 := Fr.app N1 (Fr.nil n0)
  refine go (B := T2.setTop (mkF m 17 #[.val (.int p0), .val (.int p1), .val (.int p2), .val (.int p3), .val (.long q4), .second, .val (.long q5), .second, .val (.int (f1 (q4.toInt32))), .unset, .unset, .unset, .unset, .unset, .unset, .unset, .unset, .unset, .unset] [(.int (f1 (((q4.toUInt64 >>> ((32 : Int32) &&& 0x3f).toInt64.toUInt64).toInt64).toInt32)))])) (fun _ k => st2 _ k) ?_
  refine go (B := T2.setTop (mkF m 19 #[.val (.int p0), .val (.int p1), .val (.int p2), .val (.int p3), .val (.long q4), .second, .val (.long q5), .second, .val (.int (f1 (q4.toInt32))), .val (.int (f1 (((q4.toUInt64 >>> ((32 : Int32) &&& 0x3f).toInt64.toUInt64).toInt64).toInt32))), .unset, .unset, .unset, .unset, .unset, .unset, .unset, .unset, .unset] [])) (fun _ k => XS.istore X2.here hx rfl (hb hby at_17) rfl (l' := #[.val (.int p0), .val (.int p1), .val (.int p2), .val (.int p3), .val (.long q4), .second, .val (.long q5), .second, .val (.int (f1 (q4.toInt32))), .val (.int (f1 (((q4.toUInt64 >>> ((32 : Int32) &&& 0x3f).toInt64.toUInt64).toInt64).toInt32))), .unset, .unset, .unset, .unset, .unset, .unset, .unset, .unset, .unset]) rfl k) ?_
  refine go (B := T2.setTop (mkF m 21 #[.val (.int p0), .val (.int p1), .val (.int p2), .val (.int p3), .val (.long q4), .second, .val (.long q5), .second, .val (.int (f1 (q4.toInt32))), .val (.int (f1 (((q4.toUInt64 >>> ((32 : Int32) &&& 0x3f).toInt64.toUInt64).toInt64).toInt32))), .unset, .unset, .unset, .unset, .unset, .unset, .unset, .unset, .unset] [(.long q5)])) (fun _ k => XS.lload X2.here hx rfl (hb hby at_19) rfl k) ?_
  refine go (B := T2.setTop (mkF m 22 #[.val (.int p0), .val (.int p1), .val (.int p2), .val (.int p3), .val (.long q4), .second, .val (.long q5), .second, .val (.int (f1 (q4.toInt32))), .val (.int (f1 (((q4.toUInt64 >>> ((32 : Int32) &&& 0x3f).toInt64.toUInt64).toInt64).toInt32))), .unset, .unset, .unset, .unset, .unset, .unset, .unset, .unset, .unset] [(.int (q5.toInt32))])) (fun _ k => XS.l2i X2.here hx rfl (hb hby at_21) rfl k) ?_
  obtain ⟨_, _, ⟨T3, L3, k3, n3⟩, -, X3, ⟨Lc3, hQ3, l3, y3, z3⟩, st3⟩ := Jvm.LawKit.callS X2 hx (y := (⟨"com/example/fenced_widget/fencedwidget/fence/BoundsOverlapsPinLaw", "size", "(I)I"⟩ : MethodName)) hown (mvT hZ (hw _ (List.mem_of_getElem? (i := 0) rfl))) (mvT hZ (hw _ (List.mem_of_getElem? (i := 1) rfl))) (mvT hZ (hw _ (List.mem_of_getElem? (i := 2) rfl))) (mvT hZ (hw _ (List.mem_of_getElem? (i := 3) rfl))) (by decide) (backOf (W := 0) (rm1 l Z aw hw [] (q5.toInt32) h0 n0 Z0 ) hZ (hw _ (List.mem_of_getElem? (i := 3) rfl)) (hw _ (List.mem_of_getElem? (i := 2) rfl)) (by decide) (by decide)) (g := (mkF m 22 #[.val (.int p0), .val (.int p1), .val (.int p2), .val (.int p3), .val (.long q4), .second, .val (.long q5), .second, .val (.int (f1 (q4.toInt32))), .val (.int (f1 (((q4.toUInt64 >>> ((32 : Int32) &&& 0x3f).toInt64.toUInt64).toInt64).toInt32))), .unset, .unset, .unset, .unset, .unset, .unset, .unset, .unset, .unset] [(.int (q5.toInt32))])) rfl (by rw [hml]; rfl) (argsL := [(.int (q5.toInt32))]) (rest := []) (lenOf pd_1 rfl) rfl (by show 2 * 0 + _ ≤ _; exact Nat.le_of_eq rfl) (hb hby at_22) (fun _ _ => ⟨rfl, e2, (by decide : 0 + 0 ≤ _), (by decide : 0 + 0 ≤ _)⟩)
  dsimp only [Pt.U, Pt.locs, Pt.cells, Pt.slots] at X3 l3 y3 z3 st3 hQ3
  subst l3 y3 z3
  obtain ⟨rfl, rfl, e3⟩ := hQ3
  have N3 := Fr.app N2 (Fr.nil n0)
  refine go (B := T3.setTop (mkF m 25 #[.val (.int p0), .val (.int p1), .val (.int p2), .val (.int p3), .val (.long q4), .second, .val (.long q5), .second, .val (.int (f1 (q4.toInt32))), .val (.int (f1 (((q4.toUInt64 >>> ((32 : Int32) &&& 0x3f).toInt64.toUInt64).toInt64).toInt32))), .unset, .unset, .unset, .unset, .unset, .unset, .unset, .unset, .unset] [(.int (f1 (q5.toInt32)))])) (fun _ k => st3 _ k) ?_
  refine go (B := T3.setTop (mkF m 27 #[.val (.int p0), .val (.int p1), .val (.int p2), .val (.int p3), .val (.long q4), .second, .val (.long q5), .second, .val (.int (f1 (q4.toInt32))), .val (.int (f1 (((q4.toUInt64 >>> ((32 : Int32) &&& 0x3f).toInt64.toUInt64).toInt64).toInt32))), .val (.int (f1 (q5.toInt32))), .unset, .unset, .unset, .unset, .unset, .unset, .unset, .unset] [])) (fun _ k => XS.istore X3.here hx rfl (hb hby at_25) rfl (l' := #[.val (.int p0), .val (.int p1), .val (.int p2), .val (.int p3), .val (.long q4), .second, .val (.long q5), .second, .val (.int (f1 (q4.toInt32))), .val (.int (f1 (((q4.toUInt64 >>> ((32 : Int32) &&& 0x3f).toInt64.toUInt64).toInt64).toInt32))), .val (.int (f1 (q5.toInt32))), .unset, .unset, .unset, .unset, .unset, .unset, .unset, .unset]) rfl k) ?_
  refine go (B := T3.setTop (mkF m 29 #[.val (.int p0), .val (.int p1), .val (.int p2), .val (.int p3), .val (.long q4), .second, .val (.long q5), .second, .val (.int (f1 (q4.toInt32))), .val (.int (f1 (((q4.toUInt64 >>> ((32 : Int32) &&& 0x3f).toInt64.toUInt64).toInt64).toInt32))), .val (.int (f1 (q5.toInt32))), .unset, .unset, .unset, .unset, .unset, .unset, .unset, .unset] [(.long q5)])) (fun _ k => XS.lload X3.here hx rfl (hb hby at_27) rfl k) ?_
  refine go (B := T3.setTop (mkF m 31 #[.val (.int p0), .val (.int p1), .val (.int p2), .val (.int p3), .val (.long q4), .second, .val (.long q5), .second, .val (.int (f1 (q4.toInt32))), .val (.int (f1 (((q4.toUInt64 >>> ((32 : Int32) &&& 0x3f).toInt64.toUInt64).toInt64).toInt32))), .val (.int (f1 (q5.toInt32))), .unset, .unset, .unset, .unset, .unset, .unset, .unset, .unset] [(.int (32 : Int32)), (.long q5)])) (fun _ k => XS.bipush X3.here hx rfl (hb hby at_29) k) ?_
  refine go (B := T3.setTop (mkF m 32 #[.val (.int p0), .val (.int p1), .val (.int p2), .val (.int p3), .val (.long q4), .second, .val (.long q5), .second, .val (.int (f1 (q4.toInt32))), .val (.int (f1 (((q4.toUInt64 >>> ((32 : Int32) &&& 0x3f).toInt64.toUInt64).toInt64).toInt32))), .val (.int (f1 (q5.toInt32))), .unset, .unset, .unset, .unset, .unset, .unset, .unset, .unset] [(.long ((q5.toUInt64 >>> ((32 : Int32) &&& 0x3f).toInt64.toUInt64).toInt64))])) (fun _ k => XS.lushr X3.here hx rfl (hb hby at_31) rfl k) ?_
  refine go (B := T3.setTop (mkF m 33 #[.val (.int p0), .val (.int p1), .val (.int p2), .val (.int p3), .val (.long q4), .second, .val (.long q5), .second, .val (.int (f1 (q4.toInt32))), .val (.int (f1 (((q4.toUInt64 >>> ((32 : Int32) &&& 0x3f).toInt64.toUInt64).toInt64).toInt32))), .val (.int (f1 (q5.toInt32))), .unset, .unset, .unset, .unset, .unset, .unset, .unset, .unset] [(.int (((q5.toUInt64 >>> ((32 : Int32) &&& 0x3f).toInt64.toUInt64).toInt64).toInt32))])) (fun _ k => XS.l2i X3.here hx rfl (hb hby at_32) rfl k) ?_
  obtain ⟨_, _, ⟨T4, L4, k4, n4⟩, -, X4, ⟨Lc4, hQ4, l4, y4, z4⟩, st4⟩ := Jvm.LawKit.callS X3 hx (y := (⟨"com/example/fenced_widget/fencedwidget/fence/BoundsOverlapsPinLaw", "size", "(I)I"⟩ : MethodName)) hown (mvT hZ (hw _ (List.mem_of_getElem? (i := 0) rfl))) (mvT hZ (hw _ (List.mem_of_getElem? (i := 1) rfl))) (mvT hZ (hw _ (List.mem_of_getElem? (i := 2) rfl))) (mvT hZ (hw _ (List.mem_of_getElem? (i := 3) rfl))) (by decide) (backOf (W := 0) (rm1 l Z aw hw [] (((q5.toUInt64 >>> ((32 : Int32) &&& 0x3f).toInt64.toUInt64).toInt64).toInt32) h0 n0 Z0 ) hZ (hw _ (List.mem_of_getElem? (i := 3) rfl)) (hw _ (List.mem_of_getElem? (i := 2) rfl)) (by decide) (by decide)) (g := (mkF m 33 #[.val (.int p0), .val (.int p1), .val (.int p2), .val (.int p3), .val (.long q4), .second, .val (.long q5), .second, .val (.int (f1 (q4.toInt32))), .val (.int (f1 (((q4.toUInt64 >>> ((32 : Int32) &&& 0x3f).toInt64.toUInt64).toInt64).toInt32))), .val (.int (f1 (q5.toInt32))), .unset, .unset, .unset, .unset, .unset, .unset, .unset, .unset] [(.int (((q5.toUInt64 >>> ((32 : Int32) &&& 0x3f).toInt64.toUInt64).toInt64).toInt32))])) rfl (by rw [hml]; rfl) (argsL := [(.int (((q5.toUInt64 >>> ((32 : Int32) &&& 0x3f).toInt64.toUInt64).toInt64).toInt32))]) (rest := []) (lenOf pd_1 rfl) rfl (by show 2 * 0 + _ ≤ _; exact Nat.le_of_eq rfl) (hb hby at_33) (fun _ _ => ⟨rfl, e3, (by decide : 0 + 0 ≤ _), (by decide : 0 + 0 ≤ _)⟩)
  dsimp only [Pt.U, Pt.locs, Pt.cells, Pt.slots] at X4 l4 y4 z4 st4 hQ4
  subst l4 y4 z4
  obtain ⟨rfl, rfl, e4⟩ := hQ4
  have N4 := Fr.app N3 (Fr.nil n0)
  refine go (B := T4.setTop (mkF m 36 #[.val (.int p0), .val (.int p1), .val (.int p2), .val (.int p3), .val (.long q4), .second, .val (.long q5), .second, .val (.int (f1 (q4.toInt32))), .val (.int (f1 (((q4.toUInt64 >>> ((32 : Int32) &&& 0x3f).toInt64.toUInt64).toInt64).toInt32))), .val (.int (f1 (q5.toInt32))), .unset, .unset, .unset, .unset, .unset, .unset, .unset, .unset] [(.int (f1 (((q5.toUInt64 >>> ((32 : Int32) &&& 0x3f).toInt64.toUInt64).toInt64).toInt32)))])) (fun _ k => st4 _ k) ?_
  refine go (B := T4.setTop (mkF m 38 #[.val (.int p0), .val (.int p1), .val (.int p2), .val (.int p3), .val (.long q4), .second, .val (.long q5), .second, .val (.int (f1 (q4.toInt32))), .val (.int (f1 (((q4.toUInt64 >>> ((32 : Int32) &&& 0x3f).toInt64.toUInt64).toInt64).toInt32))), .val (.int (f1 (q5.toInt32))), .val (.int (f1 (((q5.toUInt64 >>> ((32 : Int32) &&& 0x3f).toInt64.toUInt64).toInt64).toInt32))), .unset, .unset, .unset, .unset, .unset, .unset, .unset] [])) (fun _ k => XS.istore X4.here hx rfl (hb hby at_36) rfl (l' := #[.val (.int p0), .val (.int p1), .val (.int p2), .val (.int p3), .val (.long q4), .second, .val (.long q5), .second, .val (.int (f1 (q4.toInt32))), .val (.int (f1 (((q4.toUInt64 >>> ((32 : Int32) &&& 0x3f).toInt64.toUInt64).toInt64).toInt32))), .val (.int (f1 (q5.toInt32))), .val (.int (f1 (((q5.toUInt64 >>> ((32 : Int32) &&& 0x3f).toInt64.toUInt64).toInt64).toInt32))), .unset, .unset, .unset, .unset, .unset, .unset, .unset]) rfl k) ?_
  obtain ⟨T5, h5, X5, e5, E5, A5, D5, -, st5⟩ := newO X4 hx hZ hown (hw _ (List.mem_of_getElem? (i := 9) rfl)) (hw _ (List.mem_of_getElem? (i := 10) rfl)) (hw _ (List.mem_of_getElem? (i := 11) rfl)) e4 (g := (mkF m 38 #[.val (.int p0), .val (.int p1), .val (.int p2), .val (.int p3), .val (.long q4), .second, .val (.long q5), .second, .val (.int (f1 (q4.toInt32))), .val (.int (f1 (((q4.toUInt64 >>> ((32 : Int32) &&& 0x3f).toInt64.toUInt64).toInt64).toInt32))), .val (.int (f1 (q5.toInt32))), .val (.int (f1 (((q5.toUInt64 >>> ((32 : Int32) &&& 0x3f).toInt64.toUInt64).toInt64).toInt32))), .unset, .unset, .unset, .unset, .unset, .unset, .unset] [])) rfl (hb hby at_38) (by decide) (by decide)
  obtain ⟨b5, g5⟩ : ∃ z, z = h0.size := ⟨_, rfl⟩
  rw [← g5] at A5 D5 st5
  have g_b5 : n0 ≤ b5 := Nat.le_trans Z0 (Nat.le_of_eq g5.symm)
  have Z5 := Nat.le_trans Z0 E5.1
  have F_x_b5 : Fld Z h5 b5 "com/example/fenced_widget/fencedwidget/fence/Bounds" "x" "I" (.int (0 : Int32)) := D5 (Or.inr (hw _ (List.mem_of_getElem? (i := 19) rfl))) (ty := .int) (by decide)
  have F_y_b5 : Fld Z h5 b5 "com/example/fenced_widget/fencedwidget/fence/Bounds" "y" "I" (.int (0 : Int32)) := D5 (Or.inr (hw _ (List.mem_of_getElem? (i := 21) rfl))) (ty := .int) (by decide)
  have F_width_b5 : Fld Z h5 b5 "com/example/fenced_widget/fencedwidget/fence/Bounds" "width" "I" (.int (0 : Int32)) := D5 (Or.inr (hw _ (List.mem_of_getElem? (i := 23) rfl))) (ty := .int) (by decide)
  have F_height_b5 : Fld Z h5 b5 "com/example/fenced_widget/fencedwidget/fence/Bounds" "height" "I" (.int (0 : Int32)) := D5 (Or.inr (hw _ (List.mem_of_getElem? (i := 25) rfl))) (ty := .int) (by decide)
  have E_b5 := A5
  refine go (B := T5.setTop (mkF m 41 #[.val (.int p0), .val (.int p1), .val (.int p2), .val (.int p3), .val (.long q4), .second, .val (.long q5), .second, .val (.int (f1 (q4.toInt32))), .val (.int (f1 (((q4.toUInt64 >>> ((32 : Int32) &&& 0x3f).toInt64.toUInt64).toInt64).toInt32))), .val (.int (f1 (q5.toInt32))), .val (.int (f1 (((q5.toUInt64 >>> ((32 : Int32) &&& 0x3f).toInt64.toUInt64).toInt64).toInt32))), .unset, .unset, .unset, .unset, .unset, .unset, .unset] [(.ref b5)])) st5 ?_
  refine go (B := T5.setTop (mkF m 42 #[.val (.int p0), .val (.int p1), .val (.int p2), .val (.int p3), .val (.long q4), .second, .val (.long q5), .second, .val (.int (f1 (q4.toInt32))), .val (.int (f1 (((q4.toUInt64 >>> ((32 : Int32) &&& 0x3f).toInt64.toUInt64).toInt64).toInt32))), .val (.int (f1 (q5.toInt32))), .val (.int (f1 (((q5.toUInt64 >>> ((32 : Int32) &&& 0x3f).toInt64.toUInt64).toInt64).toInt32))), .unset, .unset, .unset, .unset, .unset, .unset, .unset] [(.ref b5), (.ref b5)])) (fun _ k => XS.dup X5.here hx rfl (hb hby at_41) rfl rfl k) ?_
  refine go (B := T5.setTop (mkF m 43 #[.val (.int p0), .val (.int p1), .val (.int p2), .val (.int p3), .val (.long q4), .second, .val (.long q5), .second, .val (.int (f1 (q4.toInt32))), .val (.int (f1 (((q4.toUInt64 >>> ((32 : Int32) &&& 0x3f).toInt64.toUInt64).toInt64).toInt32))), .val (.int (f1 (q5.toInt32))), .val (.int (f1 (((q5.toUInt64 >>> ((32 : Int32) &&& 0x3f).toInt64.toUInt64).toInt64).toInt32))), .unset, .unset, .unset, .unset, .unset, .unset, .unset] [(.int p0), (.ref b5), (.ref b5)])) (fun _ k => XS.iloadN X5.here hx rfl (hb hby at_42) rfl k) ?_
  refine go (B := T5.setTop (mkF m 44 #[.val (.int p0), .val (.int p1), .val (.int p2), .val (.int p3), .val (.long q4), .second, .val (.long q5), .second, .val (.int (f1 (q4.toInt32))), .val (.int (f1 (((q4.toUInt64 >>> ((32 : Int32) &&& 0x3f).toInt64.toUInt64).toInt64).toInt32))), .val (.int (f1 (q5.toInt32))), .val (.int (f1 (((q5.toUInt64 >>> ((32 : Int32) &&& 0x3f).toInt64.toUInt64).toInt64).toInt32))), .unset, .unset, .unset, .unset, .unset, .unset, .unset] [(.int p1), (.int p0), (.ref b5), (.ref b5)])) (fun _ k => XS.iloadN X5.here hx rfl (hb hby at_43) rfl k) ?_
  refine go (B := T5.setTop (mkF m 46 #[.val (.int p0), .val (.int p1), .val (.int p2), .val (.int p3), .val (.long q4), .second, .val (.long q5), .second, .val (.int (f1 (q4.toInt32))), .val (.int (f1 (((q4.toUInt64 >>> ((32 : Int32) &&& 0x3f).toInt64.toUInt64).toInt64).toInt32))), .val (.int (f1 (q5.toInt32))), .val (.int (f1 (((q5.toUInt64 >>> ((32 : Int32) &&& 0x3f).toInt64.toUInt64).toInt64).toInt32))), .unset, .unset, .unset, .unset, .unset, .unset, .unset] [(.int (f1 (q4.toInt32))), (.int p1), (.int p0), (.ref b5), (.ref b5)])) (fun _ k => XS.iload X5.here hx rfl (hb hby at_44) rfl k) ?_
  refine go (B := T5.setTop (mkF m 48 #[.val (.int p0), .val (.int p1), .val (.int p2), .val (.int p3), .val (.long q4), .second, .val (.long q5), .second, .val (.int (f1 (q4.toInt32))), .val (.int (f1 (((q4.toUInt64 >>> ((32 : Int32) &&& 0x3f).toInt64.toUInt64).toInt64).toInt32))), .val (.int (f1 (q5.toInt32))), .val (.int (f1 (((q5.toUInt64 >>> ((32 : Int32) &&& 0x3f).toInt64.toUInt64).toInt64).toInt32))), .unset, .unset, .unset, .unset, .unset, .unset, .unset] [(.int (f1 (((q4.toUInt64 >>> ((32 : Int32) &&& 0x3f).toInt64.toUInt64).toInt64).toInt32))), (.int (f1 (q4.toInt32))), (.int p1), (.int p0), (.ref b5), (.ref b5)])) (fun _ k => XS.iload X5.here hx rfl (hb hby at_46) rfl k) ?_
  obtain ⟨_, _, ⟨T6, L6, k6, n6⟩, -, X6, ⟨Lc6, hQ6, l6, y6, z6⟩, st6⟩ := X5.specialBack hx (y := (⟨"com/example/fenced_widget/fencedwidget/fence/Bounds", "<init>", "(IIII)V"⟩ : MethodName)) rfl hown (mvT hZ (hw _ (List.mem_of_getElem? (i := 12) rfl))) (mvT hZ (hw _ (List.mem_of_getElem? (i := 13) rfl))) (mvT hZ (hw _ (List.mem_of_getElem? (i := 14) rfl))) (by decide) (backOf (W := 1) (rm3 l Z aw hw [] b5 p0 p1 (f1 (q4.toInt32)) (f1 (((q4.toUInt64 >>> ((32 : Int32) &&& 0x3f).toInt64.toUInt64).toInt64).toInt32)) h5 n0 Z5 F_x_b5 F_y_b5 F_width_b5 F_height_b5 E_b5 g_b5) hZ (hw _ (List.mem_of_getElem? (i := 14) rfl)) (hw _ (List.mem_of_getElem? (i := 11) rfl)) (by decide) (by decide)) (g := (mkF m 48 #[.val (.int p0), .val (.int p1), .val (.int p2), .val (.int p3), .val (.long q4), .second, .val (.long q5), .second, .val (.int (f1 (q4.toInt32))), .val (.int (f1 (((q4.toUInt64 >>> ((32 : Int32) &&& 0x3f).toInt64.toUInt64).toInt64).toInt32))), .val (.int (f1 (q5.toInt32))), .val (.int (f1 (((q5.toUInt64 >>> ((32 : Int32) &&& 0x3f).toInt64.toUInt64).toInt64).toInt32))), .unset, .unset, .unset, .unset, .unset, .unset, .unset] [(.int (f1 (((q4.toUInt64 >>> ((32 : Int32) &&& 0x3f).toInt64.toUInt64).toInt64).toInt32))), (.int (f1 (q4.toInt32))), (.int p1), (.int p0), (.ref b5), (.ref b5)])) rfl (by rw [hml]; rfl) (Steps.refl _) (a := b5) (argsL := [(.int p0), (.int p1), (.int (f1 (q4.toInt32))), (.int (f1 (((q4.toUInt64 >>> ((32 : Int32) &&& 0x3f).toInt64.toUInt64).toInt64).toInt32)))]) (rest := [(.ref b5)]) (lenOf pd_2 rfl) rfl (by show 2 * 0 + _ ≤ _; exact Nat.le_of_eq rfl) (hb hby at_48) (fun _ _ => ⟨rfl, e5, (by decide : 1 + 0 ≤ _), (by decide : 4 + 0 ≤ _)⟩)
  dsimp only [Pt.U, Pt.locs, Pt.cells, Pt.slots] at X6 l6 y6 z6 st6 hQ6
  subst l6 y6 z6
  obtain ⟨rfl, N6q, Kc6, o6_0, o6_1, o6_2, o6_3, o6_4⟩ := hQ6
  have E_b5_6 := E_b5.keep Kc6
  have N6 := Fr.app N4 N6q
  have Z6 := Nat.le_trans Z5 Kc6.1
  refine go (B := T6.setTop (mkF m 51 #[.val (.int p0), .val (.int p1), .val (.int p2), .val (.int p3), .val (.long q4), .second, .val (.long q5), .second, .val (.int (f1 (q4.toInt32))), .val (.int (f1 (((q4.toUInt64 >>> ((32 : Int32) &&& 0x3f).toInt64.toUInt64).toInt64).toInt32))), .val (.int (f1 (q5.toInt32))), .val (.int (f1 (((q5.toUInt64 >>> ((32 : Int32) &&& 0x3f).toInt64.toUInt64).toInt64).toInt32))), .unset, .unset, .unset, .unset, .unset, .unset, .unset] [(.ref b5)])) (fun _ k => st6.trans k) ?_
  refine go (B := T6.setTop (mkF m 53 #[.val (.int p0), .val (.int p1), .val (.int p2), .val (.int p3), .val (.long q4), .second, .val (.long q5), .second, .val (.int (f1 (q4.toInt32))), .val (.int (f1 (((q4.toUInt64 >>> ((32 : Int32) &&& 0x3f).toInt64.toUInt64).toInt64).toInt32))), .val (.int (f1 (q5.toInt32))), .val (.int (f1 (((q5.toUInt64 >>> ((32 : Int32) &&& 0x3f).toInt64.toUInt64).toInt64).toInt32))), .val (.ref b5), .unset, .unset, .unset, .unset, .unset, .unset] [])) (fun _ k => XS.astore X6.here hx rfl (hb hby at_51) rfl rfl (l' := #[.val (.int p0), .val (.int p1), .val (.int p2), .val (.int p3), .val (.long q4), .second, .val (.long q5), .second, .val (.int (f1 (q4.toInt32))), .val (.int (f1 (((q4.toUInt64 >>> ((32 : Int32) &&& 0x3f).toInt64.toUInt64).toInt64).toInt32))), .val (.int (f1 (q5.toInt32))), .val (.int (f1 (((q5.toUInt64 >>> ((32 : Int32) &&& 0x3f).toInt64.toUInt64).toInt64).toInt32))), .val (.ref b5), .unset, .unset, .unset, .unset, .unset, .unset]) rfl k) ?_
  obtain ⟨T7, h7, X7, e7, E7, A7, D7, -, st7⟩ := newO X6 hx hZ hown (hw _ (List.mem_of_getElem? (i := 9) rfl)) (hw _ (List.mem_of_getElem? (i := 10) rfl)) (hw _ (List.mem_of_getElem? (i := 11) rfl)) rfl (g := (mkF m 53 #[.val (.int p0), .val (.int p1), .val (.int p2), .val (.int p3), .val (.long q4), .second, .val (.long q5), .second, .val (.int (f1 (q4.toInt32))), .val (.int (f1 (((q4.toUInt64 >>> ((32 : Int32) &&& 0x3f).toInt64.toUInt64).toInt64).toInt32))), .val (.int (f1 (q5.toInt32))), .val (.int (f1 (((q5.toUInt64 >>> ((32 : Int32) &&& 0x3f).toInt64.toUInt64).toInt64).toInt32))), .val (.ref b5), .unset, .unset, .unset, .unset, .unset, .unset] [])) rfl (hb hby at_53) (by decide) (by decide)
  obtain ⟨b7, g7⟩ : ∃ z, z = T6.heap.size := ⟨_, rfl⟩
  rw [← g7] at A7 D7 st7
  have g_b7 : n0 ≤ b7 := Nat.le_trans Z6 (Nat.le_of_eq g7.symm)
  have ne_b5_b7 : b5 ≠ b7 := Nat.ne_of_lt (Nat.lt_of_lt_of_le o6_0.lt (Nat.le_of_eq g7.symm))
  have E_b5_7 := o6_0.ext E7
  have F_x_b5_7 := o6_1.ext E7
  have F_y_b5_7 := o6_2.ext E7
  have F_width_b5_7 := o6_3.ext E7
  have F_height_b5_7 := o6_4.ext E7
  have Z7 := Nat.le_trans Z6 E7.1
  have F_x_b7 : Fld Z h7 b7 "com/example/fenced_widget/fencedwidget/fence/Bounds" "x" "I" (.int (0 : Int32)) := D7 (Or.inr (hw _ (List.mem_of_getElem? (i := 19) rfl))) (ty := .int) (by decide)
  have F_y_b7 : Fld Z h7 b7 "com/example/fenced_widget/fencedwidget/fence/Bounds" "y" "I" (.int (0 : Int32)) := D7 (Or.inr (hw _ (List.mem_of_getElem? (i := 21) rfl))) (ty := .int) (by decide)
  have F_width_b7 : Fld Z h7 b7 "com/example/fenced_widget/fencedwidget/fence/Bounds" "width" "I" (.int (0 : Int32)) := D7 (Or.inr (hw _ (List.mem_of_getElem? (i := 23) rfl))) (ty := .int) (by decide)
  have F_height_b7 : Fld Z h7 b7 "com/example/fenced_widget/fencedwidget/fence/Bounds" "height" "I" (.int (0 : Int32)) := D7 (Or.inr (hw _ (List.mem_of_getElem? (i := 25) rfl))) (ty := .int) (by decide)
  have E_b7 := A7
  refine go (B := T7.setTop (mkF m 56 #[.val (.int p0), .val (.int p1), .val (.int p2), .val (.int p3), .val (.long q4), .second, .val (.long q5), .second, .val (.int (f1 (q4.toInt32))), .val (.int (f1 (((q4.toUInt64 >>> ((32 : Int32) &&& 0x3f).toInt64.toUInt64).toInt64).toInt32))), .val (.int (f1 (q5.toInt32))), .val (.int (f1 (((q5.toUInt64 >>> ((32 : Int32) &&& 0x3f).toInt64.toUInt64).toInt64).toInt32))), .val (.ref b5), .unset, .unset, .unset, .unset, .unset, .unset] [(.ref b7)])) st7 ?_
  refine go (B := T7.setTop (mkF m 57 #[.val (.int p0), .val (.int p1), .val (.int p2), .val (.int p3), .val (.long q4), .second, .val (.long q5), .second, .val (.int (f1 (q4.toInt32))), .val (.int (f1 (((q4.toUInt64 >>> ((32 : Int32) &&& 0x3f).toInt64.toUInt64).toInt64).toInt32))), .val (.int (f1 (q5.toInt32))), .val (.int (f1 (((q5.toUInt64 >>> ((32 : Int32) &&& 0x3f).toInt64.toUInt64).toInt64).toInt32))), .val (.ref b5), .unset, .unset, .unset, .unset, .unset, .unset] [(.ref b7), (.ref b7)])) (fun _ k => XS.dup X7.here hx rfl (hb hby at_56) rfl rfl k) ?_
  refine go (B := T7.setTop (mkF m 58 #[.val (.int p0), .val (.int p1), .val (.int p2), .val (.int p3), .val (.long q4), .second, .val (.long q5), .second, .val (.int (f1 (q4.toInt32))), .val (.int (f1 (((q4.toUInt64 >>> ((32 : Int32) &&& 0x3f).toInt64.toUInt64).toInt64).toInt32))), .val (.int (f1 (q5.toInt32))), .val (.int (f1 (((q5.toUInt64 >>> ((32 : Int32) &&& 0x3f).toInt64.toUInt64).toInt64).toInt32))), .val (.ref b5), .unset, .unset, .unset, .unset, .unset, .unset] [(.int p2), (.ref b7), (.ref b7)])) (fun _ k => XS.iloadN X7.here hx rfl (hb hby at_57) rfl k) ?_
  refine go (B := T7.setTop (mkF m 59 #[.val (.int p0), .val (.int p1), .val (.int p2), .val (.int p3), .val (.long q4), .second, .val (.long q5), .second, .val (.int (f1 (q4.toInt32))), .val (.int (f1 (((q4.toUInt64 >>> ((32 : Int32) &&& 0x3f).toInt64.toUInt64).toInt64).toInt32))), .val (.int (f1 (q5.toInt32))), .val (.int (f1 (((q5.toUInt64 >>> ((32 : Int32) &&& 0x3f).toInt64.toUInt64).toInt64).toInt32))), .val (.ref b5), .unset, .unset, .unset, .unset, .unset, .unset] [(.int p3), (.int p2), (.ref b7), (.ref b7)])) (fun _ k => XS.iloadN X7.here hx rfl (hb hby at_58) rfl k) ?_
  refine go (B := T7.setTop (mkF m 61 #[.val (.int p0), .val (.int p1), .val (.int p2), .val (.int p3), .val (.long q4), .second, .val (.long q5), .second, .val (.int (f1 (q4.toInt32))), .val (.int (f1 (((q4.toUInt64 >>> ((32 : Int32) &&& 0x3f).toInt64.toUInt64).toInt64).toInt32))), .val (.int (f1 (q5.toInt32))), .val (.int (f1 (((q5.toUInt64 >>> ((32 : Int32) &&& 0x3f).toInt64.toUInt64).toInt64).toInt32))), .val (.ref b5), .unset, .unset, .unset, .unset, .unset, .unset] [(.int (f1 (q5.toInt32))), (.int p3), (.int p2), (.ref b7), (.ref b7)])) (fun _ k => XS.iload X7.here hx rfl (hb hby at_59) rfl k) ?_
  refine go (B := T7.setTop (mkF m 63 #[.val (.int p0), .val (.int p1), .val (.int p2), .val (.int p3), .val (.long q4), .second, .val (.long q5), .second, .val (.int (f1 (q4.toInt32))), .val (.int (f1 (((q4.toUInt64 >>> ((32 : Int32) &&& 0x3f).toInt64.toUInt64).toInt64).toInt32))), .val (.int (f1 (q5.toInt32))), .val (.int (f1 (((q5.toUInt64 >>> ((32 : Int32) &&& 0x3f).toInt64.toUInt64).toInt64).toInt32))), .val (.ref b5), .unset, .unset, .unset, .unset, .unset, .unset] [(.int (f1 (((q5.toUInt64 >>> ((32 : Int32) &&& 0x3f).toInt64.toUInt64).toInt64).toInt32))), (.int (f1 (q5.toInt32))), (.int p3), (.int p2), (.ref b7), (.ref b7)])) (fun _ k => XS.iload X7.here hx rfl (hb hby at_61) rfl k) ?_
  obtain ⟨_, _, ⟨T8, L8, k8, n8⟩, -, X8, ⟨Lc8, hQ8, l8, y8, z8⟩, st8⟩ := X7.specialBack hx (y := (⟨"com/example/fenced_widget/fencedwidget/fence/Bounds", "<init>", "(IIII)V"⟩ : MethodName)) rfl hown (mvT hZ (hw _ (List.mem_of_getElem? (i := 12) rfl))) (mvT hZ (hw _ (List.mem_of_getElem? (i := 13) rfl))) (mvT hZ (hw _ (List.mem_of_getElem? (i := 14) rfl))) (by decide) (backOf (W := 1) (rm3 l Z aw hw [] b7 p2 p3 (f1 (q5.toInt32)) (f1 (((q5.toUInt64 >>> ((32 : Int32) &&& 0x3f).toInt64.toUInt64).toInt64).toInt32)) h7 n0 Z7 F_x_b7 F_y_b7 F_width_b7 F_height_b7 E_b7 g_b7) hZ (hw _ (List.mem_of_getElem? (i := 14) rfl)) (hw _ (List.mem_of_getElem? (i := 11) rfl)) (by decide) (by decide)) (g := (mkF m 63 #[.val (.int p0), .val (.int p1), .val (.int p2), .val (.int p3), .val (.long q4), .second, .val (.long q5), .second, .val (.int (f1 (q4.toInt32))), .val (.int (f1 (((q4.toUInt64 >>> ((32 : Int32) &&& 0x3f).toInt64.toUInt64).toInt64).toInt32))), .val (.int (f1 (q5.toInt32))), .val (.int (f1 (((q5.toUInt64 >>> ((32 : Int32) &&& 0x3f).toInt64.toUInt64).toInt64).toInt32))), .val (.ref b5), .unset, .unset, .unset, .unset, .unset, .unset] [(.int (f1 (((q5.toUInt64 >>> ((32 : Int32) &&& 0x3f).toInt64.toUInt64).toInt64).toInt32))), (.int (f1 (q5.toInt32))), (.int p3), (.int p2), (.ref b7), (.ref b7)])) rfl (by rw [hml]; rfl) (Steps.refl _) (a := b7) (argsL := [(.int p2), (.int p3), (.int (f1 (q5.toInt32))), (.int (f1 (((q5.toUInt64 >>> ((32 : Int32) &&& 0x3f).toInt64.toUInt64).toInt64).toInt32)))]) (rest := [(.ref b7)]) (lenOf pd_2 rfl) rfl (by show 2 * 0 + _ ≤ _; exact Nat.le_of_eq rfl) (hb hby at_63) (fun _ _ => ⟨rfl, e7, (by decide : 2 + 0 ≤ _), (by decide : 8 + 0 ≤ _)⟩)
  dsimp only [Pt.U, Pt.locs, Pt.cells, Pt.slots] at X8 l8 y8 z8 st8 hQ8
  subst l8 y8 z8
  obtain ⟨rfl, N8q, Kc8, o8_0, o8_1, o8_2, o8_3, o8_4⟩ := hQ8
  have E_b5_8 := E_b5_7.keep Kc8
  have F_x_b5_8 := F_x_b5_7.keep Kc8 (ninS ne_b5_b7 nin0)
  have F_y_b5_8 := F_y_b5_7.keep Kc8 (ninS ne_b5_b7 nin0)
  have F_width_b5_8 := F_width_b5_7.keep Kc8 (ninS ne_b5_b7 nin0)
  have F_height_b5_8 := F_height_b5_7.keep Kc8 (ninS ne_b5_b7 nin0)
  have E_b7_8 := E_b7.keep Kc8
  have N8 := Fr.app N6 N8q
  have Z8 := Nat.le_trans Z7 Kc8.1
  refine go (B := T8.setTop (mkF m 66 #[.val (.int p0), .val (.int p1), .val (.int p2), .val (.int p3), .val (.long q4), .second, .val (.long q5), .second, .val (.int (f1 (q4.toInt32))), .val (.int (f1 (((q4.toUInt64 >>> ((32 : Int32) &&& 0x3f).toInt64.toUInt64).toInt64).toInt32))), .val (.int (f1 (q5.toInt32))), .val (.int (f1 (((q5.toUInt64 >>> ((32 : Int32) &&& 0x3f).toInt64.toUInt64).toInt64).toInt32))), .val (.ref b5), .unset, .unset, .unset, .unset, .unset, .unset] [(.ref b7)])) (fun _ k => st8.trans k) ?_
  refine go (B := T8.setTop (mkF m 68 #[.val (.int p0), .val (.int p1), .val (.int p2), .val (.int p3), .val (.long q4), .second, .val (.long q5), .second, .val (.int (f1 (q4.toInt32))), .val (.int (f1 (((q4.toUInt64 >>> ((32 : Int32) &&& 0x3f).toInt64.toUInt64).toInt64).toInt32))), .val (.int (f1 (q5.toInt32))), .val (.int (f1 (((q5.toUInt64 >>> ((32 : Int32) &&& 0x3f).toInt64.toUInt64).toInt64).toInt32))), .val (.ref b5), .val (.ref b7), .unset, .unset, .unset, .unset, .unset] [])) (fun _ k => XS.astore X8.here hx rfl (hb hby at_66) rfl rfl (l' := #[.val (.int p0), .val (.int p1), .val (.int p2), .val (.int p3), .val (.long q4), .second, .val (.long q5), .second, .val (.int (f1 (q4.toInt32))), .val (.int (f1 (((q4.toUInt64 >>> ((32 : Int32) &&& 0x3f).toInt64.toUInt64).toInt64).toInt32))), .val (.int (f1 (q5.toInt32))), .val (.int (f1 (((q5.toUInt64 >>> ((32 : Int32) &&& 0x3f).toInt64.toUInt64).toInt64).toInt32))), .val (.ref b5), .val (.ref b7), .unset, .unset, .unset, .unset, .unset]) rfl k) ?_
  refine go (B := T8.setTop (mkF m 69 #[.val (.int p0), .val (.int p1), .val (.int p2), .val (.int p3), .val (.long q4), .second, .val (.long q5), .second, .val (.int (f1 (q4.toInt32))), .val (.int (f1 (((q4.toUInt64 >>> ((32 : Int32) &&& 0x3f).toInt64.toUInt64).toInt64).toInt32))), .val (.int (f1 (q5.toInt32))), .val (.int (f1 (((q5.toUInt64 >>> ((32 : Int32) &&& 0x3f).toInt64.toUInt64).toInt64).toInt32))), .val (.ref b5), .val (.ref b7), .unset, .unset, .unset, .unset, .unset] [(.int p0)])) (fun _ k => XS.iloadN X8.here hx rfl (hb hby at_68) rfl k) ?_
  refine go (B := T8.setTop (mkF m 70 #[.val (.int p0), .val (.int p1), .val (.int p2), .val (.int p3), .val (.long q4), .second, .val (.long q5), .second, .val (.int (f1 (q4.toInt32))), .val (.int (f1 (((q4.toUInt64 >>> ((32 : Int32) &&& 0x3f).toInt64.toUInt64).toInt64).toInt32))), .val (.int (f1 (q5.toInt32))), .val (.int (f1 (((q5.toUInt64 >>> ((32 : Int32) &&& 0x3f).toInt64.toUInt64).toInt64).toInt32))), .val (.ref b5), .val (.ref b7), .unset, .unset, .unset, .unset, .unset] [(.int p2), (.int p0)])) (fun _ k => XS.iloadN X8.here hx rfl (hb hby at_69) rfl k) ?_
  obtain ⟨_, _, ⟨T9, L9, k9, n9⟩, -, X9, ⟨Lc9, hQ9, l9, y9, z9⟩, st9⟩ := Jvm.LawKit.callS X8 hx (y := (⟨"java/lang/Math", "max", "(II)I"⟩ : MethodName)) hown (mvT hZ (hw _ (List.mem_of_getElem? (i := 5) rfl))) (mvT hZ (hw _ (List.mem_of_getElem? (i := 6) rfl))) (mvT hZ (hw _ (List.mem_of_getElem? (i := 7) rfl))) (mvT hZ (hw _ (List.mem_of_getElem? (i := 8) rfl))) (by decide) (backOf (W := 0) (rm2 l Z aw hw [] p0 p2 T8.heap n0 Z8 ) hZ (hw _ (List.mem_of_getElem? (i := 8) rfl)) (hw _ (List.mem_of_getElem? (i := 7) rfl)) (by decide) (by decide)) (g := (mkF m 70 #[.val (.int p0), .val (.int p1), .val (.int p2), .val (.int p3), .val (.long q4), .second, .val (.long q5), .second, .val (.int (f1 (q4.toInt32))), .val (.int (f1 (((q4.toUInt64 >>> ((32 : Int32) &&& 0x3f).toInt64.toUInt64).toInt64).toInt32))), .val (.int (f1 (q5.toInt32))), .val (.int (f1 (((q5.toUInt64 >>> ((32 : Int32) &&& 0x3f).toInt64.toUInt64).toInt64).toInt32))), .val (.ref b5), .val (.ref b7), .unset, .unset, .unset, .unset, .unset] [(.int p2), (.int p0)])) rfl (by rw [hml]; rfl) (argsL := [(.int p0), (.int p2)]) (rest := []) (lenOf pd_0 rfl) rfl (by show 2 * 0 + _ ≤ _; exact Nat.le_of_eq rfl) (hb hby at_70) (fun _ _ => ⟨rfl, rfl, (by decide : 2 + 0 ≤ _), (by decide : 8 + 0 ≤ _)⟩)
  dsimp only [Pt.U, Pt.locs, Pt.cells, Pt.slots] at X9 l9 y9 z9 st9 hQ9
  subst l9 y9 z9
  obtain ⟨rfl, rfl, e9⟩ := hQ9
  have N9 := Fr.app N8 (Fr.nil n0)
  refine go (B := T9.setTop (mkF m 73 #[.val (.int p0), .val (.int p1), .val (.int p2), .val (.int p3), .val (.long q4), .second, .val (.long q5), .second, .val (.int (f1 (q4.toInt32))), .val (.int (f1 (((q4.toUInt64 >>> ((32 : Int32) &&& 0x3f).toInt64.toUInt64).toInt64).toInt32))), .val (.int (f1 (q5.toInt32))), .val (.int (f1 (((q5.toUInt64 >>> ((32 : Int32) &&& 0x3f).toInt64.toUInt64).toInt64).toInt32))), .val (.ref b5), .val (.ref b7), .unset, .unset, .unset, .unset, .unset] [(.int (f2 p0 p2))])) (fun _ k => st9 _ k) ?_
  refine go (B := T9.setTop (mkF m 75 #[.val (.int p0), .val (.int p1), .val (.int p2), .val (.int p3), .val (.long q4), .second, .val (.long q5), .second, .val (.int (f1 (q4.toInt32))), .val (.int (f1 (((q4.toUInt64 >>> ((32 : Int32) &&& 0x3f).toInt64.toUInt64).toInt64).toInt32))), .val (.int (f1 (q5.toInt32))), .val (.int (f1 (((q5.toUInt64 >>> ((32 : Int32) &&& 0x3f).toInt64.toUInt64).toInt64).toInt32))), .val (.ref b5), .val (.ref b7), .val (.int (f2 p0 p2)), .unset, .unset, .unset, .unset] [])) (fun _ k => XS.istore X9.here hx rfl (hb hby at_73) rfl (l' := #[.val (.int p0), .val (.int p1), .val (.int p2), .val (.int p3), .val (.long q4), .second, .val (.long q5), .second, .val (.int (f1 (q4.toInt32))), .val (.int (f1 (((q4.toUInt64 >>> ((32 : Int32) &&& 0x3f).toInt64.toUInt64).toInt64).toInt32))), .val (.int (f1 (q5.toInt32))), .val (.int (f1 (((q5.toUInt64 >>> ((32 : Int32) &&& 0x3f).toInt64.toUInt64).toInt64).toInt32))), .val (.ref b5), .val (.ref b7), .val (.int (f2 p0 p2)), .unset, .unset, .unset, .unset]) rfl k) ?_
  refine go (B := T9.setTop (mkF m 76 #[.val (.int p0), .val (.int p1), .val (.int p2), .val (.int p3), .val (.long q4), .second, .val (.long q5), .second, .val (.int (f1 (q4.toInt32))), .val (.int (f1 (((q4.toUInt64 >>> ((32 : Int32) &&& 0x3f).toInt64.toUInt64).toInt64).toInt32))), .val (.int (f1 (q5.toInt32))), .val (.int (f1 (((q5.toUInt64 >>> ((32 : Int32) &&& 0x3f).toInt64.toUInt64).toInt64).toInt32))), .val (.ref b5), .val (.ref b7), .val (.int (f2 p0 p2)), .unset, .unset, .unset, .unset] [(.int p1)])) (fun _ k => XS.iloadN X9.here hx rfl (hb hby at_75) rfl k) ?_
  refine go (B := T9.setTop (mkF m 77 #[.val (.int p0), .val (.int p1), .val (.int p2), .val (.int p3), .val (.long q4), .second, .val (.long q5), .second, .val (.int (f1 (q4.toInt32))), .val (.int (f1 (((q4.toUInt64 >>> ((32 : Int32) &&& 0x3f).toInt64.toUInt64).toInt64).toInt32))), .val (.int (f1 (q5.toInt32))), .val (.int (f1 (((q5.toUInt64 >>> ((32 : Int32) &&& 0x3f).toInt64.toUInt64).toInt64).toInt32))), .val (.ref b5), .val (.ref b7), .val (.int (f2 p0 p2)), .unset, .unset, .unset, .unset] [(.int p3), (.int p1)])) (fun _ k => XS.iloadN X9.here hx rfl (hb hby at_76) rfl k) ?_
  obtain ⟨_, _, ⟨T10, L10, k10, n10⟩, -, X10, ⟨Lc10, hQ10, l10, y10, z10⟩, st10⟩ := Jvm.LawKit.callS X9 hx (y := (⟨"java/lang/Math", "max", "(II)I"⟩ : MethodName)) hown (mvT hZ (hw _ (List.mem_of_getElem? (i := 5) rfl))) (mvT hZ (hw _ (List.mem_of_getElem? (i := 6) rfl))) (mvT hZ (hw _ (List.mem_of_getElem? (i := 7) rfl))) (mvT hZ (hw _ (List.mem_of_getElem? (i := 8) rfl))) (by decide) (backOf (W := 0) (rm2 l Z aw hw [] p1 p3 T8.heap n0 Z8 ) hZ (hw _ (List.mem_of_getElem? (i := 8) rfl)) (hw _ (List.mem_of_getElem? (i := 7) rfl)) (by decide) (by decide)) (g := (mkF m 77 #[.val (.int p0), .val (.int p1), .val (.int p2), .val (.int p3), .val (.long q4), .second, .val (.long q5), .second, .val (.int (f1 (q4.toInt32))), .val (.int (f1 (((q4.toUInt64 >>> ((32 : Int32) &&& 0x3f).toInt64.toUInt64).toInt64).toInt32))), .val (.int (f1 (q5.toInt32))), .val (.int (f1 (((q5.toUInt64 >>> ((32 : Int32) &&& 0x3f).toInt64.toUInt64).toInt64).toInt32))), .val (.ref b5), .val (.ref b7), .val (.int (f2 p0 p2)), .unset, .unset, .unset, .unset] [(.int p3), (.int p1)])) rfl (by rw [hml]; rfl) (argsL := [(.int p1), (.int p3)]) (rest := []) (lenOf pd_0 rfl) rfl (by show 2 * 0 + _ ≤ _; exact Nat.le_of_eq rfl) (hb hby at_77) (fun _ _ => ⟨rfl, e9, (by decide : 2 + 0 ≤ _), (by decide : 8 + 0 ≤ _)⟩)
  dsimp only [Pt.U, Pt.locs, Pt.cells, Pt.slots] at X10 l10 y10 z10 st10 hQ10
  subst l10 y10 z10
  obtain ⟨rfl, rfl, e10⟩ := hQ10
  have N10 := Fr.app N9 (Fr.nil n0)
  refine go (B := T10.setTop (mkF m 80 #[.val (.int p0), .val (.int p1), .val (.int p2), .val (.int p3), .val (.long q4), .second, .val (.long q5), .second, .val (.int (f1 (q4.toInt32))), .val (.int (f1 (((q4.toUInt64 >>> ((32 : Int32) &&& 0x3f).toInt64.toUInt64).toInt64).toInt32))), .val (.int (f1 (q5.toInt32))), .val (.int (f1 (((q5.toUInt64 >>> ((32 : Int32) &&& 0x3f).toInt64.toUInt64).toInt64).toInt32))), .val (.ref b5), .val (.ref b7), .val (.int (f2 p0 p2)), .unset, .unset, .unset, .unset] [(.int (f2 p1 p3))])) (fun _ k => st10 _ k) ?_
  refine go (B := T10.setTop (mkF m 82 #[.val (.int p0), .val (.int p1), .val (.int p2), .val (.int p3), .val (.long q4), .second, .val (.long q5), .second, .val (.int (f1 (q4.toInt32))), .val (.int (f1 (((q4.toUInt64 >>> ((32 : Int32) &&& 0x3f).toInt64.toUInt64).toInt64).toInt32))), .val (.int (f1 (q5.toInt32))), .val (.int (f1 (((q5.toUInt64 >>> ((32 : Int32) &&& 0x3f).toInt64.toUInt64).toInt64).toInt32))), .val (.ref b5), .val (.ref b7), .val (.int (f2 p0 p2)), .val (.int (f2 p1 p3)), .unset, .unset, .unset] [])) (fun _ k => XS.istore X10.here hx rfl (hb hby at_80) rfl (l' := #[.val (.int p0), .val (.int p1), .val (.int p2), .val (.int p3), .val (.long q4), .second, .val (.long q5), .second, .val (.int (f1 (q4.toInt32))), .val (.int (f1 (((q4.toUInt64 >>> ((32 : Int32) &&& 0x3f).toInt64.toUInt64).toInt64).toInt32))), .val (.int (f1 (q5.toInt32))), .val (.int (f1 (((q5.toUInt64 >>> ((32 : Int32) &&& 0x3f).toInt64.toUInt64).toInt64).toInt32))), .val (.ref b5), .val (.ref b7), .val (.int (f2 p0 p2)), .val (.int (f2 p1 p3)), .unset, .unset, .unset]) rfl k) ?_
  refine go (B := T10.setTop (mkF m 84 #[.val (.int p0), .val (.int p1), .val (.int p2), .val (.int p3), .val (.long q4), .second, .val (.long q5), .second, .val (.int (f1 (q4.toInt32))), .val (.int (f1 (((q4.toUInt64 >>> ((32 : Int32) &&& 0x3f).toInt64.toUInt64).toInt64).toInt32))), .val (.int (f1 (q5.toInt32))), .val (.int (f1 (((q5.toUInt64 >>> ((32 : Int32) &&& 0x3f).toInt64.toUInt64).toInt64).toInt32))), .val (.ref b5), .val (.ref b7), .val (.int (f2 p0 p2)), .val (.int (f2 p1 p3)), .unset, .unset, .unset] [(.ref b5)])) (fun _ k => XS.aload X10.here hx rfl (hb hby at_82) rfl rfl k) ?_
  refine go (B := T10.setTop (mkF m 86 #[.val (.int p0), .val (.int p1), .val (.int p2), .val (.int p3), .val (.long q4), .second, .val (.long q5), .second, .val (.int (f1 (q4.toInt32))), .val (.int (f1 (((q4.toUInt64 >>> ((32 : Int32) &&& 0x3f).toInt64.toUInt64).toInt64).toInt32))), .val (.int (f1 (q5.toInt32))), .val (.int (f1 (((q5.toUInt64 >>> ((32 : Int32) &&& 0x3f).toInt64.toUInt64).toInt64).toInt32))), .val (.ref b5), .val (.ref b7), .val (.int (f2 p0 p2)), .val (.int (f2 p1 p3)), .unset, .unset, .unset] [(.int (f2 p0 p2)), (.ref b5)])) (fun _ k => XS.iload X10.here hx rfl (hb hby at_84) rfl k) ?_
  refine go (B := T10.setTop (mkF m 88 #[.val (.int p0), .val (.int p1), .val (.int p2), .val (.int p3), .val (.long q4), .second, .val (.long q5), .second, .val (.int (f1 (q4.toInt32))), .val (.int (f1 (((q4.toUInt64 >>> ((32 : Int32) &&& 0x3f).toInt64.toUInt64).toInt64).toInt32))), .val (.int (f1 (q5.toInt32))), .val (.int (f1 (((q5.toUInt64 >>> ((32 : Int32) &&& 0x3f).toInt64.toUInt64).toInt64).toInt32))), .val (.ref b5), .val (.ref b7), .val (.int (f2 p0 p2)), .val (.int (f2 p1 p3)), .unset, .unset, .unset] [(.int (f2 p1 p3)), (.int (f2 p0 p2)), (.ref b5)])) (fun _ k => XS.iload X10.here hx rfl (hb hby at_86) rfl k) ?_
  obtain ⟨cq11, kq11, q11a, q11b, q11c⟩ := isOf hZ e10 E_b5_8
  obtain ⟨_, _, ⟨T11, L11, k11, n11⟩, -, X11, ⟨Lc11, hQ11, l11, y11, z11⟩, st11⟩ := X10.virtualBack hx (y := (⟨"com/example/fenced_widget/fencedwidget/fence/Bounds", "contains", "(II)Z"⟩ : MethodName)) (z := (⟨"com/example/fenced_widget/fencedwidget/fence/Bounds", "contains", "(II)Z"⟩ : MethodName)) hown (mvT hZ (hw _ (List.mem_of_getElem? (i := 26) rfl))) (mvT hZ (hw _ (List.mem_of_getElem? (i := 27) rfl))) (notFace_of_selects (args := #[]) (mvT hZ (hw _ (List.mem_of_getElem? (i := 29) rfl)))) (mvT hZ (hw _ (List.mem_of_getElem? (i := 29) rfl))) (mvT hZ (hw _ (List.mem_of_getElem? (i := 28) rfl))) (by decide) (backOf (W := 0) (rm5 l Z aw hw [] b5 (f2 p0 p2) (f2 p1 p3) p0 (f1 (q4.toInt32)) p1 (f1 (((q4.toUInt64 >>> ((32 : Int32) &&& 0x3f).toInt64.toUInt64).toInt64).toInt32)) T8.heap n0 Z8 F_x_b5_8 F_width_b5_8 F_y_b5_8 F_height_b5_8) hZ (hw _ (List.mem_of_getElem? (i := 30) rfl)) (hw _ (List.mem_of_getElem? (i := 11) rfl)) (by decide) (by decide)) q11a q11c (g := (mkF m 88 #[.val (.int p0), .val (.int p1), .val (.int p2), .val (.int p3), .val (.long q4), .second, .val (.long q5), .second, .val (.int (f1 (q4.toInt32))), .val (.int (f1 (((q4.toUInt64 >>> ((32 : Int32) &&& 0x3f).toInt64.toUInt64).toInt64).toInt32))), .val (.int (f1 (q5.toInt32))), .val (.int (f1 (((q5.toUInt64 >>> ((32 : Int32) &&& 0x3f).toInt64.toUInt64).toInt64).toInt32))), .val (.ref b5), .val (.ref b7), .val (.int (f2 p0 p2)), .val (.int (f2 p1 p3)), .unset, .unset, .unset] [(.int (f2 p1 p3)), (.int (f2 p0 p2)), (.ref b5)])) rfl (by rw [hml]; rfl) (Steps.refl _) (argsL := [(.int (f2 p0 p2)), (.int (f2 p1 p3))]) (rest := []) (lenOf pd_3 rfl) rfl (by show 2 * 0 + _ ≤ _; exact Nat.le_of_eq rfl) (hb hby at_88) (fun _ _ => ⟨rfl, e10, (by decide : 2 + 0 ≤ _), (by decide : 8 + 0 ≤ _)⟩)
  dsimp only [Pt.U, Pt.locs, Pt.cells, Pt.slots] at X11 l11 y11 z11 st11 hQ11
  subst l11 y11 z11
  obtain ⟨rfl, rfl, e11⟩ := hQ11
  have N11 := Fr.app N10 (Fr.nil n0)
  refine go (B := T11.setTop (mkF m 91 #[.val (.int p0), .val (.int p1), .val (.int p2), .val (.int p3), .val (.long q4), .second, .val (.long q5), .second, .val (.int (f1 (q4.toInt32))), .val (.int (f1 (((q4.toUInt64 >>> ((32 : Int32) &&& 0x3f).toInt64.toUInt64).toInt64).toInt32))), .val (.int (f1 (q5.toInt32))), .val (.int (f1 (((q5.toUInt64 >>> ((32 : Int32) &&& 0x3f).toInt64.toUInt64).toInt64).toInt32))), .val (.ref b5), .val (.ref b7), .val (.int (f2 p0 p2)), .val (.int (f2 p1 p3)), .unset, .unset, .unset] [(.int (f0_t0 p0 p1 p2 p3 q4))])) (fun _ k => st11.trans k) ?_
  suffices Kj12 : ∀ (T12 : State) (L12 : List Loc), Stand p l e room_1 s m #[(.int p0), (.int p1), (.int p2), (.int p3), (.long q4), (.long q5)] below meth c T12 L12 2 8 → Fr n0 L12 → T12.heap = T8.heap → Go p.tables e below F (T12.setTop (mkF m 111 #[.val (.int p0), .val (.int p1), .val (.int p2), .val (.int p3), .val (.long q4), .second, .val (.long q5), .second, .val (.int (f1 (q4.toInt32))), .val (.int (f1 (((q4.toUInt64 >>> ((32 : Int32) &&& 0x3f).toInt64.toUInt64).toInt64).toInt32))), .val (.int (f1 (q5.toInt32))), .val (.int (f1 (((q5.toUInt64 >>> ((32 : Int32) &&& 0x3f).toInt64.toUInt64).toInt64).toInt32))), .val (.ref b5), .val (.ref b7), .val (.int (f2 p0 p2)), .val (.int (f2 p1 p3)), .unset, .unset, .unset] [(.int (f0_z2 p0 p1 p2 p3 q4 q5))])) by
    by_cases hc13 : (f0_t0 p0 p1 p2 p3 q4) = (0 : Int32)
    · refine go (B := T11.setTop (mkF m 110 #[.val (.int p0), .val (.int p1), .val (.int p2), .val (.int p3), .val (.long q4), .second, .val (.long q5), .second, .val (.int (f1 (q4.toInt32))), .val (.int (f1 (((q4.toUInt64 >>> ((32 : Int32) &&& 0x3f).toInt64.toUInt64).toInt64).toInt32))), .val (.int (f1 (q5.toInt32))), .val (.int (f1 (((q5.toUInt64 >>> ((32 : Int32) &&& 0x3f).toInt64.toUInt64).toInt64).toInt32))), .val (.ref b5), .val (.ref b7), .val (.int (f2 p0 p2)), .val (.int (f2 p1 p3)), .unset, .unset, .unset] [])) (fun _ k => XS.ifYes X11.here hx rfl (pc0 := 91) (pc' := 110) rfl (hb hby at_91) rfl ((if0 _ _).trans (teq hc13).1) (by decide) (by decide) k) ?_
      refine go (B := T11.setTop (mkF m 111 #[.val (.int p0), .val (.int p1), .val (.int p2), .val (.int p3), .val (.long q4), .second, .val (.long q5), .second, .val (.int (f1 (q4.toInt32))), .val (.int (f1 (((q4.toUInt64 >>> ((32 : Int32) &&& 0x3f).toInt64.toUInt64).toInt64).toInt32))), .val (.int (f1 (q5.toInt32))), .val (.int (f1 (((q5.toUInt64 >>> ((32 : Int32) &&& 0x3f).toInt64.toUInt64).toInt64).toInt32))), .val (.ref b5), .val (.ref b7), .val (.int (f2 p0 p2)), .val (.int (f2 p1 p3)), .unset, .unset, .unset] [(.int (0 : Int32))])) (fun _ k => XS.iconst X11.here hx rfl (hb hby at_110) k) ?_
      rw [show (f0_z2 p0 p1 p2 p3 q4 q5) = (0 : Int32) from by unfold f0_z2; rw [if_pos hc13]] at Kj12
      exact Kj12 _ _ X11 N11 e11
    · refine go (B := T11.setTop (mkF m 94 #[.val (.int p0), .val (.int p1), .val (.int p2), .val (.int p3), .val (.long q4), .second, .val (.long q5), .second, .val (.int (f1 (q4.toInt32))), .val (.int (f1 (((q4.toUInt64 >>> ((32 : Int32) &&& 0x3f).toInt64.toUInt64).toInt64).toInt32))), .val (.int (f1 (q5.toInt32))), .val (.int (f1 (((q5.toUInt64 >>> ((32 : Int32) &&& 0x3f).toInt64.toUInt64).toInt64).toInt32))), .val (.ref b5), .val (.ref b7), .val (.int (f2 p0 p2)), .val (.int (f2 p1 p3)), .unset, .unset, .unset] [])) (fun _ k => XS.ifNo X11.here hx rfl (hb hby at_91) rfl ((if0 _ _).trans (feq hc13).1) k) ?_
      refine go (B := T11.setTop (mkF m 96 #[.val (.int p0), .val (.int p1), .val (.int p2), .val (.int p3), .val (.long q4), .second, .val (.long q5), .second, .val (.int (f1 (q4.toInt32))), .val (.int (f1 (((q4.toUInt64 >>> ((32 : Int32) &&& 0x3f).toInt64.toUInt64).toInt64).toInt32))), .val (.int (f1 (q5.toInt32))), .val (.int (f1 (((q5.toUInt64 >>> ((32 : Int32) &&& 0x3f).toInt64.toUInt64).toInt64).toInt32))), .val (.ref b5), .val (.ref b7), .val (.int (f2 p0 p2)), .val (.int (f2 p1 p3)), .unset, .unset, .unset] [(.ref b7)])) (fun _ k => XS.aload X11.here hx rfl (hb hby at_94) rfl rfl k) ?_
      refine go (B := T11.setTop (mkF m 98 #[.val (.int p0), .val (.int p1), .val (.int p2), .val (.int p3), .val (.long q4), .second, .val (.long q5), .second, .val (.int (f1 (q4.toInt32))), .val (.int (f1 (((q4.toUInt64 >>> ((32 : Int32) &&& 0x3f).toInt64.toUInt64).toInt64).toInt32))), .val (.int (f1 (q5.toInt32))), .val (.int (f1 (((q5.toUInt64 >>> ((32 : Int32) &&& 0x3f).toInt64.toUInt64).toInt64).toInt32))), .val (.ref b5), .val (.ref b7), .val (.int (f2 p0 p2)), .val (.int (f2 p1 p3)), .unset, .unset, .unset] [(.int (f2 p0 p2)), (.ref b7)])) (fun _ k => XS.iload X11.here hx rfl (hb hby at_96) rfl k) ?_
      refine go (B := T11.setTop (mkF m 100 #[.val (.int p0), .val (.int p1), .val (.int p2), .val (.int p3), .val (.long q4), .second, .val (.long q5), .second, .val (.int (f1 (q4.toInt32))), .val (.int (f1 (((q4.toUInt64 >>> ((32 : Int32) &&& 0x3f).toInt64.toUInt64).toInt64).toInt32))), .val (.int (f1 (q5.toInt32))), .val (.int (f1 (((q5.toUInt64 >>> ((32 : Int32) &&& 0x3f).toInt64.toUInt64).toInt64).toInt32))), .val (.ref b5), .val (.ref b7), .val (.int (f2 p0 p2)), .val (.int (f2 p1 p3)), .unset, .unset, .unset] [(.int (f2 p1 p3)), (.int (f2 p0 p2)), (.ref b7)])) (fun _ k => XS.iload X11.here hx rfl (hb hby at_98) rfl k) ?_
      obtain ⟨cq14, kq14, q14a, q14b, q14c⟩ := isOf hZ e11 o8_0
      obtain ⟨_, _, ⟨T14, L14, k14, n14⟩, -, X14, ⟨Lc14, hQ14, l14, y14, z14⟩, st14⟩ := X11.virtualBack hx (y := (⟨"com/example/fenced_widget/fencedwidget/fence/Bounds", "contains", "(II)Z"⟩ : MethodName)) (z := (⟨"com/example/fenced_widget/fencedwidget/fence/Bounds", "contains", "(II)Z"⟩ : MethodName)) hown (mvT hZ (hw _ (List.mem_of_getElem? (i := 26) rfl))) (mvT hZ (hw _ (List.mem_of_getElem? (i := 27) rfl))) (notFace_of_selects (args := #[]) (mvT hZ (hw _ (List.mem_of_getElem? (i := 29) rfl)))) (mvT hZ (hw _ (List.mem_of_getElem? (i := 29) rfl))) (mvT hZ (hw _ (List.mem_of_getElem? (i := 28) rfl))) (by decide) (backOf (W := 0) (rm5 l Z aw hw [] b7 (f2 p0 p2) (f2 p1 p3) p2 (f1 (q5.toInt32)) p3 (f1 (((q5.toUInt64 >>> ((32 : Int32) &&& 0x3f).toInt64.toUInt64).toInt64).toInt32)) T8.heap n0 Z8 o8_1 o8_3 o8_2 o8_4) hZ (hw _ (List.mem_of_getElem? (i := 30) rfl)) (hw _ (List.mem_of_getElem? (i := 11) rfl)) (by decide) (by decide)) q14a q14c (g := (mkF m 100 #[.val (.int p0), .val (.int p1), .val (.int p2), .val (.int p3), .val (.long q4), .second, .val (.long q5), .second, .val (.int (f1 (q4.toInt32))), .val (.int (f1 (((q4.toUInt64 >>> ((32 : Int32) &&& 0x3f).toInt64.toUInt64).toInt64).toInt32))), .val (.int (f1 (q5.toInt32))), .val (.int (f1 (((q5.toUInt64 >>> ((32 : Int32) &&& 0x3f).toInt64.toUInt64).toInt64).toInt32))), .val (.ref b5), .val (.ref b7), .val (.int (f2 p0 p2)), .val (.int (f2 p1 p3)), .unset, .unset, .unset] [(.int (f2 p1 p3)), (.int (f2 p0 p2)), (.ref b7)])) rfl (by rw [hml]; rfl) (Steps.refl _) (argsL := [(.int (f2 p0 p2)), (.int (f2 p1 p3))]) (rest := []) (lenOf pd_3 rfl) rfl (by show 2 * 0 + _ ≤ _; exact Nat.le_of_eq rfl) (hb hby at_100) (fun _ _ => ⟨rfl, e11, (by decide : 2 + 0 ≤ _), (by decide : 8 + 0 ≤ _)⟩)
      dsimp only [Pt.U, Pt.locs, Pt.cells, Pt.slots] at X14 l14 y14 z14 st14 hQ14
      subst l14 y14 z14
      obtain ⟨rfl, rfl, e14⟩ := hQ14
      have N14 := Fr.app N11 (Fr.nil n0)
      refine go (B := T14.setTop (mkF m 103 #[.val (.int p0), .val (.int p1), .val (.int p2), .val (.int p3), .val (.long q4), .second, .val (.long q5), .second, .val (.int (f1 (q4.toInt32))), .val (.int (f1 (((q4.toUInt64 >>> ((32 : Int32) &&& 0x3f).toInt64.toUInt64).toInt64).toInt32))), .val (.int (f1 (q5.toInt32))), .val (.int (f1 (((q5.toUInt64 >>> ((32 : Int32) &&& 0x3f).toInt64.toUInt64).toInt64).toInt32))), .val (.ref b5), .val (.ref b7), .val (.int (f2 p0 p2)), .val (.int (f2 p1 p3)), .unset, .unset, .unset] [(.int (f0_t1 p0 p1 p2 p3 q5))])) (fun _ k => st14.trans k) ?_
      by_cases hc15 : (f0_t1 p0 p1 p2 p3 q5) = (0 : Int32)
      · refine go (B := T14.setTop (mkF m 110 #[.val (.int p0), .val (.int p1), .val (.int p2), .val (.int p3), .val (.long q4), .second, .val (.long q5), .second, .val (.int (f1 (q4.toInt32))), .val (.int (f1 (((q4.toUInt64 >>> ((32 : Int32) &&& 0x3f).toInt64.toUInt64).toInt64).toInt32))), .val (.int (f1 (q5.toInt32))), .val (.int (f1 (((q5.toUInt64 >>> ((32 : Int32) &&& 0x3f).toInt64.toUInt64).toInt64).toInt32))), .val (.ref b5), .val (.ref b7), .val (.int (f2 p0 p2)), .val (.int (f2 p1 p3)), .unset, .unset, .unset] [])) (fun _ k => XS.ifYes X14.here hx rfl (pc0 := 103) (pc' := 110) rfl (hb hby at_103) rfl ((if0 _ _).trans (teq hc15).1) (by decide) (by decide) k) ?_
        refine go (B := T14.setTop (mkF m 111 #[.val (.int p0), .val (.int p1), .val (.int p2), .val (.int p3), .val (.long q4), .second, .val (.long q5), .second, .val (.int (f1 (q4.toInt32))), .val (.int (f1 (((q4.toUInt64 >>> ((32 : Int32) &&& 0x3f).toInt64.toUInt64).toInt64).toInt32))), .val (.int (f1 (q5.toInt32))), .val (.int (f1 (((q5.toUInt64 >>> ((32 : Int32) &&& 0x3f).toInt64.toUInt64).toInt64).toInt32))), .val (.ref b5), .val (.ref b7), .val (.int (f2 p0 p2)), .val (.int (f2 p1 p3)), .unset, .unset, .unset] [(.int (0 : Int32))])) (fun _ k => XS.iconst X14.here hx rfl (hb hby at_110) k) ?_
        rw [show (f0_z2 p0 p1 p2 p3 q4 q5) = (0 : Int32) from by unfold f0_z2; rw [if_neg hc13, if_pos hc15]] at Kj12
        exact Kj12 _ _ X14 N14 e14
      · refine go (B := T14.setTop (mkF m 106 #[.val (.int p0), .val (.int p1), .val (.int p2), .val (.int p3), .val (.long q4), .second, .val (.long q5), .second, .val (.int (f1 (q4.toInt32))), .val (.int (f1 (((q4.toUInt64 >>> ((32 : Int32) &&& 0x3f).toInt64.toUInt64).toInt64).toInt32))), .val (.int (f1 (q5.toInt32))), .val (.int (f1 (((q5.toUInt64 >>> ((32 : Int32) &&& 0x3f).toInt64.toUInt64).toInt64).toInt32))), .val (.ref b5), .val (.ref b7), .val (.int (f2 p0 p2)), .val (.int (f2 p1 p3)), .unset, .unset, .unset] [])) (fun _ k => XS.ifNo X14.here hx rfl (hb hby at_103) rfl ((if0 _ _).trans (feq hc15).1) k) ?_
        refine go (B := T14.setTop (mkF m 107 #[.val (.int p0), .val (.int p1), .val (.int p2), .val (.int p3), .val (.long q4), .second, .val (.long q5), .second, .val (.int (f1 (q4.toInt32))), .val (.int (f1 (((q4.toUInt64 >>> ((32 : Int32) &&& 0x3f).toInt64.toUInt64).toInt64).toInt32))), .val (.int (f1 (q5.toInt32))), .val (.int (f1 (((q5.toUInt64 >>> ((32 : Int32) &&& 0x3f).toInt64.toUInt64).toInt64).toInt32))), .val (.ref b5), .val (.ref b7), .val (.int (f2 p0 p2)), .val (.int (f2 p1 p3)), .unset, .unset, .unset] [(.int (1 : Int32))])) (fun _ k => XS.iconst X14.here hx rfl (hb hby at_106) k) ?_
        refine go (B := T14.setTop (mkF m 111 #[.val (.int p0), .val (.int p1), .val (.int p2), .val (.int p3), .val (.long q4), .second, .val (.long q5), .second, .val (.int (f1 (q4.toInt32))), .val (.int (f1 (((q4.toUInt64 >>> ((32 : Int32) &&& 0x3f).toInt64.toUInt64).toInt64).toInt32))), .val (.int (f1 (q5.toInt32))), .val (.int (f1 (((q5.toUInt64 >>> ((32 : Int32) &&& 0x3f).toInt64.toUInt64).toInt64).toInt32))), .val (.ref b5), .val (.ref b7), .val (.int (f2 p0 p2)), .val (.int (f2 p1 p3)), .unset, .unset, .unset] [(.int (1 : Int32))])) (fun _ k => XS.goto X14.here hx rfl (pc0 := 107) (pc' := 111) rfl (hb hby at_107) (by decide) (by decide) k) ?_
        rw [show (f0_z2 p0 p1 p2 p3 q4 q5) = (1 : Int32) from by unfold f0_z2; rw [if_neg hc13, if_neg hc15]] at Kj12
        exact Kj12 _ _ X14 N14 e14
  intro T12 L12 X12 N12 e12
  refine go (B := T12.setTop (mkF m 113 #[.val (.int p0), .val (.int p1), .val (.int p2), .val (.int p3), .val (.long q4), .second, .val (.long q5), .second, .val (.int (f1 (q4.toInt32))), .val (.int (f1 (((q4.toUInt64 >>> ((32 : Int32) &&& 0x3f).toInt64.toUInt64).toInt64).toInt32))), .val (.int (f1 (q5.toInt32))), .val (.int (f1 (((q5.toUInt64 >>> ((32 : Int32) &&& 0x3f).toInt64.toUInt64).toInt64).toInt32))), .val (.ref b5), .val (.ref b7), .val (.int (f2 p0 p2)), .val (.int (f2 p1 p3)), .val (.int (f0_z2 p0 p1 p2 p3 q4 q5)), .unset, .unset] [])) (fun _ k => XS.istore X12.here hx rfl (hb hby at_111) rfl (l' := #[.val (.int p0), .val (.int p1), .val (.int p2), .val (.int p3), .val (.long q4), .second, .val (.long q5), .second, .val (.int (f1 (q4.toInt32))), .val (.int (f1 (((q4.toUInt64 >>> ((32 : Int32) &&& 0x3f).toInt64.toUInt64).toInt64).toInt32))), .val (.int (f1 (q5.toInt32))), .val (.int (f1 (((q5.toUInt64 >>> ((32 : Int32) &&& 0x3f).toInt64.toUInt64).toInt64).toInt32))), .val (.ref b5), .val (.ref b7), .val (.int (f2 p0 p2)), .val (.int (f2 p1 p3)), .val (.int (f0_z2 p0 p1 p2 p3 q4 q5)), .unset, .unset]) rfl k) ?_
  refine go (B := T12.setTop (mkF m 115 #[.val (.int p0), .val (.int p1), .val (.int p2), .val (.int p3), .val (.long q4), .second, .val (.long q5), .second, .val (.int (f1 (q4.toInt32))), .val (.int (f1 (((q4.toUInt64 >>> ((32 : Int32) &&& 0x3f).toInt64.toUInt64).toInt64).toInt32))), .val (.int (f1 (q5.toInt32))), .val (.int (f1 (((q5.toUInt64 >>> ((32 : Int32) &&& 0x3f).toInt64.toUInt64).toInt64).toInt32))), .val (.ref b5), .val (.ref b7), .val (.int (f2 p0 p2)), .val (.int (f2 p1 p3)), .val (.int (f0_z2 p0 p1 p2 p3 q4 q5)), .unset, .unset] [(.ref b5)])) (fun _ k => XS.aload X12.here hx rfl (hb hby at_113) rfl rfl k) ?_
  refine go (B := T12.setTop (mkF m 117 #[.val (.int p0), .val (.int p1), .val (.int p2), .val (.int p3), .val (.long q4), .second, .val (.long q5), .second, .val (.int (f1 (q4.toInt32))), .val (.int (f1 (((q4.toUInt64 >>> ((32 : Int32) &&& 0x3f).toInt64.toUInt64).toInt64).toInt32))), .val (.int (f1 (q5.toInt32))), .val (.int (f1 (((q5.toUInt64 >>> ((32 : Int32) &&& 0x3f).toInt64.toUInt64).toInt64).toInt32))), .val (.ref b5), .val (.ref b7), .val (.int (f2 p0 p2)), .val (.int (f2 p1 p3)), .val (.int (f0_z2 p0 p1 p2 p3 q4 q5)), .unset, .unset] [(.ref b7), (.ref b5)])) (fun _ k => XS.aload X12.here hx rfl (hb hby at_115) rfl rfl k) ?_
  obtain ⟨cq16, kq16, q16a, q16b, q16c⟩ := isOf hZ e12 E_b5_8
  obtain ⟨_, _, ⟨T16, L16, k16, n16⟩, -, X16, ⟨Lc16, hQ16, l16, y16, z16⟩, st16⟩ := X12.virtualBack hx (y := (⟨"com/example/fenced_widget/fencedwidget/fence/Bounds", "overlaps", "(Lcom/example/fenced_widget/fencedwidget/fence/Bounds;)Z"⟩ : MethodName)) (z := (⟨"com/example/fenced_widget/fencedwidget/fence/Bounds", "overlaps", "(Lcom/example/fenced_widget/fencedwidget/fence/Bounds;)Z"⟩ : MethodName)) hown (mvT hZ (hw _ (List.mem_of_getElem? (i := 31) rfl))) (mvT hZ (hw _ (List.mem_of_getElem? (i := 32) rfl))) (notFace_of_selects (args := #[]) (mvT hZ (hw _ (List.mem_of_getElem? (i := 34) rfl)))) (mvT hZ (hw _ (List.mem_of_getElem? (i := 34) rfl))) (mvT hZ (hw _ (List.mem_of_getElem? (i := 33) rfl))) (by decide) (backOf (W := 0) (rm6 l Z aw hw [] b5 b7 p0 p2 (f1 (q5.toInt32)) (f1 (q4.toInt32)) p1 p3 (f1 (((q5.toUInt64 >>> ((32 : Int32) &&& 0x3f).toInt64.toUInt64).toInt64).toInt32)) (f1 (((q4.toUInt64 >>> ((32 : Int32) &&& 0x3f).toInt64.toUInt64).toInt64).toInt32)) T8.heap n0 Z8 F_x_b5_8 o8_1 o8_3 F_width_b5_8 F_y_b5_8 o8_2 o8_4 F_height_b5_8) hZ (hw _ (List.mem_of_getElem? (i := 35) rfl)) (hw _ (List.mem_of_getElem? (i := 11) rfl)) (by decide) (by decide)) q16a q16c (g := (mkF m 117 #[.val (.int p0), .val (.int p1), .val (.int p2), .val (.int p3), .val (.long q4), .second, .val (.long q5), .second, .val (.int (f1 (q4.toInt32))), .val (.int (f1 (((q4.toUInt64 >>> ((32 : Int32) &&& 0x3f).toInt64.toUInt64).toInt64).toInt32))), .val (.int (f1 (q5.toInt32))), .val (.int (f1 (((q5.toUInt64 >>> ((32 : Int32) &&& 0x3f).toInt64.toUInt64).toInt64).toInt32))), .val (.ref b5), .val (.ref b7), .val (.int (f2 p0 p2)), .val (.int (f2 p1 p3)), .val (.int (f0_z2 p0 p1 p2 p3 q4 q5)), .unset, .unset] [(.ref b7), (.ref b5)])) rfl (by rw [hml]; rfl) (Steps.refl _) (argsL := [(.ref b7)]) (rest := []) (lenOf pd_4 rfl) rfl (by show 2 * 0 + _ ≤ _; exact Nat.le_of_eq rfl) (hb hby at_117) (fun _ _ => ⟨rfl, e12, (by decide : 2 + 0 ≤ _), (by decide : 8 + 0 ≤ _)⟩)
  dsimp only [Pt.U, Pt.locs, Pt.cells, Pt.slots] at X16 l16 y16 z16 st16 hQ16
  subst l16 y16 z16
  obtain ⟨rfl, rfl, e16⟩ := hQ16
  have N16 := Fr.app N12 (Fr.nil n0)
  refine go (B := T16.setTop (mkF m 120 #[.val (.int p0), .val (.int p1), .val (.int p2), .val (.int p3), .val (.long q4), .second, .val (.long q5), .second, .val (.int (f1 (q4.toInt32))), .val (.int (f1 (((q4.toUInt64 >>> ((32 : Int32) &&& 0x3f).toInt64.toUInt64).toInt64).toInt32))), .val (.int (f1 (q5.toInt32))), .val (.int (f1 (((q5.toUInt64 >>> ((32 : Int32) &&& 0x3f).toInt64.toUInt64).toInt64).toInt32))), .val (.ref b5), .val (.ref b7), .val (.int (f2 p0 p2)), .val (.int (f2 p1 p3)), .val (.int (f0_z2 p0 p1 p2 p3 q4 q5)), .unset, .unset] [(.int (f0_t3 p0 p1 p2 p3 q4 q5))])) (fun _ k => st16.trans k) ?_
  refine go (B := T16.setTop (mkF m 122 #[.val (.int p0), .val (.int p1), .val (.int p2), .val (.int p3), .val (.long q4), .second, .val (.long q5), .second, .val (.int (f1 (q4.toInt32))), .val (.int (f1 (((q4.toUInt64 >>> ((32 : Int32) &&& 0x3f).toInt64.toUInt64).toInt64).toInt32))), .val (.int (f1 (q5.toInt32))), .val (.int (f1 (((q5.toUInt64 >>> ((32 : Int32) &&& 0x3f).toInt64.toUInt64).toInt64).toInt32))), .val (.ref b5), .val (.ref b7), .val (.int (f2 p0 p2)), .val (.int (f2 p1 p3)), .val (.int (f0_z2 p0 p1 p2 p3 q4 q5)), .val (.int (f0_t3 p0 p1 p2 p3 q4 q5)), .unset] [])) (fun _ k => XS.istore X16.here hx rfl (hb hby at_120) rfl (l' := #[.val (.int p0), .val (.int p1), .val (.int p2), .val (.int p3), .val (.long q4), .second, .val (.long q5), .second, .val (.int (f1 (q4.toInt32))), .val (.int (f1 (((q4.toUInt64 >>> ((32 : Int32) &&& 0x3f).toInt64.toUInt64).toInt64).toInt32))), .val (.int (f1 (q5.toInt32))), .val (.int (f1 (((q5.toUInt64 >>> ((32 : Int32) &&& 0x3f).toInt64.toUInt64).toInt64).toInt32))), .val (.ref b5), .val (.ref b7), .val (.int (f2 p0 p2)), .val (.int (f2 p1 p3)), .val (.int (f0_z2 p0 p1 p2 p3 q4 q5)), .val (.int (f0_t3 p0 p1 p2 p3 q4 q5)), .unset]) rfl k) ?_
  refine go (B := T16.setTop (mkF m 124 #[.val (.int p0), .val (.int p1), .val (.int p2), .val (.int p3), .val (.long q4), .second, .val (.long q5), .second, .val (.int (f1 (q4.toInt32))), .val (.int (f1 (((q4.toUInt64 >>> ((32 : Int32) &&& 0x3f).toInt64.toUInt64).toInt64).toInt32))), .val (.int (f1 (q5.toInt32))), .val (.int (f1 (((q5.toUInt64 >>> ((32 : Int32) &&& 0x3f).toInt64.toUInt64).toInt64).toInt32))), .val (.ref b5), .val (.ref b7), .val (.int (f2 p0 p2)), .val (.int (f2 p1 p3)), .val (.int (f0_z2 p0 p1 p2 p3 q4 q5)), .val (.int (f0_t3 p0 p1 p2 p3 q4 q5)), .unset] [(.ref b7)])) (fun _ k => XS.aload X16.here hx rfl (hb hby at_122) rfl rfl k) ?_
  refine go (B := T16.setTop (mkF m 126 #[.val (.int p0), .val (.int p1), .val (.int p2), .val (.int p3), .val (.long q4), .second, .val (.long q5), .second, .val (.int (f1 (q4.toInt32))), .val (.int (f1 (((q4.toUInt64 >>> ((32 : Int32) &&& 0x3f).toInt64.toUInt64).toInt64).toInt32))), .val (.int (f1 (q5.toInt32))), .val (.int (f1 (((q5.toUInt64 >>> ((32 : Int32) &&& 0x3f).toInt64.toUInt64).toInt64).toInt32))), .val (.ref b5), .val (.ref b7), .val (.int (f2 p0 p2)), .val (.int (f2 p1 p3)), .val (.int (f0_z2 p0 p1 p2 p3 q4 q5)), .val (.int (f0_t3 p0 p1 p2 p3 q4 q5)), .unset] [(.ref b5), (.ref b7)])) (fun _ k => XS.aload X16.here hx rfl (hb hby at_124) rfl rfl k) ?_
  obtain ⟨cq17, kq17, q17a, q17b, q17c⟩ := isOf hZ e16 o8_0
  obtain ⟨_, _, ⟨T17, L17, k17, n17⟩, -, X17, ⟨Lc17, hQ17, l17, y17, z17⟩, st17⟩ := X16.virtualBack hx (y := (⟨"com/example/fenced_widget/fencedwidget/fence/Bounds", "overlaps", "(Lcom/example/fenced_widget/fencedwidget/fence/Bounds;)Z"⟩ : MethodName)) (z := (⟨"com/example/fenced_widget/fencedwidget/fence/Bounds", "overlaps", "(Lcom/example/fenced_widget/fencedwidget/fence/Bounds;)Z"⟩ : MethodName)) hown (mvT hZ (hw _ (List.mem_of_getElem? (i := 31) rfl))) (mvT hZ (hw _ (List.mem_of_getElem? (i := 32) rfl))) (notFace_of_selects (args := #[]) (mvT hZ (hw _ (List.mem_of_getElem? (i := 34) rfl)))) (mvT hZ (hw _ (List.mem_of_getElem? (i := 34) rfl))) (mvT hZ (hw _ (List.mem_of_getElem? (i := 33) rfl))) (by decide) (backOf (W := 0) (rm6 l Z aw hw [] b7 b5 p2 p0 (f1 (q4.toInt32)) (f1 (q5.toInt32)) p3 p1 (f1 (((q4.toUInt64 >>> ((32 : Int32) &&& 0x3f).toInt64.toUInt64).toInt64).toInt32)) (f1 (((q5.toUInt64 >>> ((32 : Int32) &&& 0x3f).toInt64.toUInt64).toInt64).toInt32)) T8.heap n0 Z8 o8_1 F_x_b5_8 F_width_b5_8 o8_3 o8_2 F_y_b5_8 F_height_b5_8 o8_4) hZ (hw _ (List.mem_of_getElem? (i := 35) rfl)) (hw _ (List.mem_of_getElem? (i := 11) rfl)) (by decide) (by decide)) q17a q17c (g := (mkF m 126 #[.val (.int p0), .val (.int p1), .val (.int p2), .val (.int p3), .val (.long q4), .second, .val (.long q5), .second, .val (.int (f1 (q4.toInt32))), .val (.int (f1 (((q4.toUInt64 >>> ((32 : Int32) &&& 0x3f).toInt64.toUInt64).toInt64).toInt32))), .val (.int (f1 (q5.toInt32))), .val (.int (f1 (((q5.toUInt64 >>> ((32 : Int32) &&& 0x3f).toInt64.toUInt64).toInt64).toInt32))), .val (.ref b5), .val (.ref b7), .val (.int (f2 p0 p2)), .val (.int (f2 p1 p3)), .val (.int (f0_z2 p0 p1 p2 p3 q4 q5)), .val (.int (f0_t3 p0 p1 p2 p3 q4 q5)), .unset] [(.ref b5), (.ref b7)])) rfl (by rw [hml]; rfl) (Steps.refl _) (argsL := [(.ref b5)]) (rest := []) (lenOf pd_4 rfl) rfl (by show 2 * 0 + _ ≤ _; exact Nat.le_of_eq rfl) (hb hby at_126) (fun _ _ => ⟨rfl, e16, (by decide : 2 + 0 ≤ _), (by decide : 8 + 0 ≤ _)⟩)
  dsimp only [Pt.U, Pt.locs, Pt.cells, Pt.slots] at X17 l17 y17 z17 st17 hQ17
  subst l17 y17 z17
  obtain ⟨rfl, rfl, e17⟩ := hQ17
  have N17 := Fr.app N16 (Fr.nil n0)
  refine go (B := T17.setTop (mkF m 129 #[.val (.int p0), .val (.int p1), .val (.int p2), .val (.int p3), .val (.long q4), .second, .val (.long q5), .second, .val (.int (f1 (q4.toInt32))), .val (.int (f1 (((q4.toUInt64 >>> ((32 : Int32) &&& 0x3f).toInt64.toUInt64).toInt64).toInt32))), .val (.int (f1 (q5.toInt32))), .val (.int (f1 (((q5.toUInt64 >>> ((32 : Int32) &&& 0x3f).toInt64.toUInt64).toInt64).toInt32))), .val (.ref b5), .val (.ref b7), .val (.int (f2 p0 p2)), .val (.int (f2 p1 p3)), .val (.int (f0_z2 p0 p1 p2 p3 q4 q5)), .val (.int (f0_t3 p0 p1 p2 p3 q4 q5)), .unset] [(.int (f0_t4 p0 p1 p2 p3 q4 q5))])) (fun _ k => st17.trans k) ?_
  refine go (B := T17.setTop (mkF m 131 #[.val (.int p0), .val (.int p1), .val (.int p2), .val (.int p3), .val (.long q4), .second, .val (.long q5), .second, .val (.int (f1 (q4.toInt32))), .val (.int (f1 (((q4.toUInt64 >>> ((32 : Int32) &&& 0x3f).toInt64.toUInt64).toInt64).toInt32))), .val (.int (f1 (q5.toInt32))), .val (.int (f1 (((q5.toUInt64 >>> ((32 : Int32) &&& 0x3f).toInt64.toUInt64).toInt64).toInt32))), .val (.ref b5), .val (.ref b7), .val (.int (f2 p0 p2)), .val (.int (f2 p1 p3)), .val (.int (f0_z2 p0 p1 p2 p3 q4 q5)), .val (.int (f0_t3 p0 p1 p2 p3 q4 q5)), .val (.int (f0_t4 p0 p1 p2 p3 q4 q5))] [])) (fun _ k => XS.istore X17.here hx rfl (hb hby at_129) rfl (l' := #[.val (.int p0), .val (.int p1), .val (.int p2), .val (.int p3), .val (.long q4), .second, .val (.long q5), .second, .val (.int (f1 (q4.toInt32))), .val (.int (f1 (((q4.toUInt64 >>> ((32 : Int32) &&& 0x3f).toInt64.toUInt64).toInt64).toInt32))), .val (.int (f1 (q5.toInt32))), .val (.int (f1 (((q5.toUInt64 >>> ((32 : Int32) &&& 0x3f).toInt64.toUInt64).toInt64).toInt32))), .val (.ref b5), .val (.ref b7), .val (.int (f2 p0 p2)), .val (.int (f2 p1 p3)), .val (.int (f0_z2 p0 p1 p2 p3 q4 q5)), .val (.int (f0_t3 p0 p1 p2 p3 q4 q5)), .val (.int (f0_t4 p0 p1 p2 p3 q4 q5))]) rfl k) ?_
  refine go (B := T17.setTop (mkF m 133 #[.val (.int p0), .val (.int p1), .val (.int p2), .val (.int p3), .val (.long q4), .second, .val (.long q5), .second, .val (.int (f1 (q4.toInt32))), .val (.int (f1 (((q4.toUInt64 >>> ((32 : Int32) &&& 0x3f).toInt64.toUInt64).toInt64).toInt32))), .val (.int (f1 (q5.toInt32))), .val (.int (f1 (((q5.toUInt64 >>> ((32 : Int32) &&& 0x3f).toInt64.toUInt64).toInt64).toInt32))), .val (.ref b5), .val (.ref b7), .val (.int (f2 p0 p2)), .val (.int (f2 p1 p3)), .val (.int (f0_z2 p0 p1 p2 p3 q4 q5)), .val (.int (f0_t3 p0 p1 p2 p3 q4 q5)), .val (.int (f0_t4 p0 p1 p2 p3 q4 q5))] [(.int (f0_t3 p0 p1 p2 p3 q4 q5))])) (fun _ k => XS.iload X17.here hx rfl (hb hby at_131) rfl k) ?_
  refine go (B := T17.setTop (mkF m 135 #[.val (.int p0), .val (.int p1), .val (.int p2), .val (.int p3), .val (.long q4), .second, .val (.long q5), .second, .val (.int (f1 (q4.toInt32))), .val (.int (f1 (((q4.toUInt64 >>> ((32 : Int32) &&& 0x3f).toInt64.toUInt64).toInt64).toInt32))), .val (.int (f1 (q5.toInt32))), .val (.int (f1 (((q5.toUInt64 >>> ((32 : Int32) &&& 0x3f).toInt64.toUInt64).toInt64).toInt32))), .val (.ref b5), .val (.ref b7), .val (.int (f2 p0 p2)), .val (.int (f2 p1 p3)), .val (.int (f0_z2 p0 p1 p2 p3 q4 q5)), .val (.int (f0_t3 p0 p1 p2 p3 q4 q5)), .val (.int (f0_t4 p0 p1 p2 p3 q4 q5))] [(.int (f0_z2 p0 p1 p2 p3 q4 q5)), (.int (f0_t3 p0 p1 p2 p3 q4 q5))])) (fun _ k => XS.iload X17.here hx rfl (hb hby at_133) rfl k) ?_
  by_cases hc18 : (f0_t3 p0 p1 p2 p3 q4 q5) = (f0_z2 p0 p1 p2 p3 q4 q5)
  · refine go (B := T17.setTop (mkF m 138 #[.val (.int p0), .val (.int p1), .val (.int p2), .val (.int p3), .val (.long q4), .second, .val (.long q5), .second, .val (.int (f1 (q4.toInt32))), .val (.int (f1 (((q4.toUInt64 >>> ((32 : Int32) &&& 0x3f).toInt64.toUInt64).toInt64).toInt32))), .val (.int (f1 (q5.toInt32))), .val (.int (f1 (((q5.toUInt64 >>> ((32 : Int32) &&& 0x3f).toInt64.toUInt64).toInt64).toInt32))), .val (.ref b5), .val (.ref b7), .val (.int (f2 p0 p2)), .val (.int (f2 p1 p3)), .val (.int (f0_z2 p0 p1 p2 p3 q4 q5)), .val (.int (f0_t3 p0 p1 p2 p3 q4 q5)), .val (.int (f0_t4 p0 p1 p2 p3 q4 q5))] [])) (fun _ k => XS.icmpNo X17.here hx rfl (hb hby at_135) rfl (teq hc18).2 k) ?_
    refine go (B := T17.setTop (mkF m 140 #[.val (.int p0), .val (.int p1), .val (.int p2), .val (.int p3), .val (.long q4), .second, .val (.long q5), .second, .val (.int (f1 (q4.toInt32))), .val (.int (f1 (((q4.toUInt64 >>> ((32 : Int32) &&& 0x3f).toInt64.toUInt64).toInt64).toInt32))), .val (.int (f1 (q5.toInt32))), .val (.int (f1 (((q5.toUInt64 >>> ((32 : Int32) &&& 0x3f).toInt64.toUInt64).toInt64).toInt32))), .val (.ref b5), .val (.ref b7), .val (.int (f2 p0 p2)), .val (.int (f2 p1 p3)), .val (.int (f0_z2 p0 p1 p2 p3 q4 q5)), .val (.int (f0_t3 p0 p1 p2 p3 q4 q5)), .val (.int (f0_t4 p0 p1 p2 p3 q4 q5))] [(.int (f0_t4 p0 p1 p2 p3 q4 q5))])) (fun _ k => XS.iload X17.here hx rfl (hb hby at_138) rfl k) ?_
    refine go (B := T17.setTop (mkF m 142 #[.val (.int p0), .val (.int p1), .val (.int p2), .val (.int p3), .val (.long q4), .second, .val (.long q5), .second, .val (.int (f1 (q4.toInt32))), .val (.int (f1 (((q4.toUInt64 >>> ((32 : Int32) &&& 0x3f).toInt64.toUInt64).toInt64).toInt32))), .val (.int (f1 (q5.toInt32))), .val (.int (f1 (((q5.toUInt64 >>> ((32 : Int32) &&& 0x3f).toInt64.toUInt64).toInt64).toInt32))), .val (.ref b5), .val (.ref b7), .val (.int (f2 p0 p2)), .val (.int (f2 p1 p3)), .val (.int (f0_z2 p0 p1 p2 p3 q4 q5)), .val (.int (f0_t3 p0 p1 p2 p3 q4 q5)), .val (.int (f0_t4 p0 p1 p2 p3 q4 q5))] [(.int (f0_z2 p0 p1 p2 p3 q4 q5)), (.int (f0_t4 p0 p1 p2 p3 q4 q5))])) (fun _ k => XS.iload X17.here hx rfl (hb hby at_140) rfl k) ?_
    by_cases hc19 : (f0_t4 p0 p1 p2 p3 q4 q5) = (f0_z2 p0 p1 p2 p3 q4 q5)
    · refine go (B := T17.setTop (mkF m 145 #[.val (.int p0), .val (.int p1), .val (.int p2), .val (.int p3), .val (.long q4), .second, .val (.long q5), .second, .val (.int (f1 (q4.toInt32))), .val (.int (f1 (((q4.toUInt64 >>> ((32 : Int32) &&& 0x3f).toInt64.toUInt64).toInt64).toInt32))), .val (.int (f1 (q5.toInt32))), .val (.int (f1 (((q5.toUInt64 >>> ((32 : Int32) &&& 0x3f).toInt64.toUInt64).toInt64).toInt32))), .val (.ref b5), .val (.ref b7), .val (.int (f2 p0 p2)), .val (.int (f2 p1 p3)), .val (.int (f0_z2 p0 p1 p2 p3 q4 q5)), .val (.int (f0_t3 p0 p1 p2 p3 q4 q5)), .val (.int (f0_t4 p0 p1 p2 p3 q4 q5))] [])) (fun _ k => XS.icmpNo X17.here hx rfl (hb hby at_142) rfl (teq hc19).2 k) ?_
      refine go (B := T17.setTop (mkF m 146 #[.val (.int p0), .val (.int p1), .val (.int p2), .val (.int p3), .val (.long q4), .second, .val (.long q5), .second, .val (.int (f1 (q4.toInt32))), .val (.int (f1 (((q4.toUInt64 >>> ((32 : Int32) &&& 0x3f).toInt64.toUInt64).toInt64).toInt32))), .val (.int (f1 (q5.toInt32))), .val (.int (f1 (((q5.toUInt64 >>> ((32 : Int32) &&& 0x3f).toInt64.toUInt64).toInt64).toInt32))), .val (.ref b5), .val (.ref b7), .val (.int (f2 p0 p2)), .val (.int (f2 p1 p3)), .val (.int (f0_z2 p0 p1 p2 p3 q4 q5)), .val (.int (f0_t3 p0 p1 p2 p3 q4 q5)), .val (.int (f0_t4 p0 p1 p2 p3 q4 q5))] [(.int (1 : Int32))])) (fun _ k => XS.iconst X17.here hx rfl (hb hby at_145) k) ?_
      refine go (B := T17.setTop (mkF m 150 #[.val (.int p0), .val (.int p1), .val (.int p2), .val (.int p3), .val (.long q4), .second, .val (.long q5), .second, .val (.int (f1 (q4.toInt32))), .val (.int (f1 (((q4.toUInt64 >>> ((32 : Int32) &&& 0x3f).toInt64.toUInt64).toInt64).toInt32))), .val (.int (f1 (q5.toInt32))), .val (.int (f1 (((q5.toUInt64 >>> ((32 : Int32) &&& 0x3f).toInt64.toUInt64).toInt64).toInt32))), .val (.ref b5), .val (.ref b7), .val (.int (f2 p0 p2)), .val (.int (f2 p1 p3)), .val (.int (f0_z2 p0 p1 p2 p3 q4 q5)), .val (.int (f0_t3 p0 p1 p2 p3 q4 q5)), .val (.int (f0_t4 p0 p1 p2 p3 q4 q5))] [(.int (1 : Int32))])) (fun _ k => XS.goto X17.here hx rfl (pc0 := 146) (pc' := 150) rfl (hb hby at_146) (by decide) (by decide) k) ?_
      have r20 : (f0 p0 p1 p2 p3 q4 q5) = (1 : Int32) := by unfold f0; rw [if_pos hc18, if_pos hc19]
      exact end_nar X17 hx Bd.notSynchronized (t := .boolean) Bd.returns (by simp) (hb hby at_150) hF e17 (by decide) (by decide) ⟨(congrArg (fun z => some (Value.int z)) (r20.symm.trans (own_law p0 p1 p2 p3 q4 q5))), N17⟩
    · refine go (B := T17.setTop (mkF m 149 #[.val (.int p0), .val (.int p1), .val (.int p2), .val (.int p3), .val (.long q4), .second, .val (.long q5), .second, .val (.int (f1 (q4.toInt32))), .val (.int (f1 (((q4.toUInt64 >>> ((32 : Int32) &&& 0x3f).toInt64.toUInt64).toInt64).toInt32))), .val (.int (f1 (q5.toInt32))), .val (.int (f1 (((q5.toUInt64 >>> ((32 : Int32) &&& 0x3f).toInt64.toUInt64).toInt64).toInt32))), .val (.ref b5), .val (.ref b7), .val (.int (f2 p0 p2)), .val (.int (f2 p1 p3)), .val (.int (f0_z2 p0 p1 p2 p3 q4 q5)), .val (.int (f0_t3 p0 p1 p2 p3 q4 q5)), .val (.int (f0_t4 p0 p1 p2 p3 q4 q5))] [])) (fun _ k => XS.icmpYes X17.here hx rfl (pc0 := 142) (pc' := 149) rfl (hb hby at_142) rfl (feq hc19).2 (by decide) (by decide) k) ?_
      refine go (B := T17.setTop (mkF m 150 #[.val (.int p0), .val (.int p1), .val (.int p2), .val (.int p3), .val (.long q4), .second, .val (.long q5), .second, .val (.int (f1 (q4.toInt32))), .val (.int (f1 (((q4.toUInt64 >>> ((32 : Int32) &&& 0x3f).toInt64.toUInt64).toInt64).toInt32))), .val (.int (f1 (q5.toInt32))), .val (.int (f1 (((q5.toUInt64 >>> ((32 : Int32) &&& 0x3f).toInt64.toUInt64).toInt64).toInt32))), .val (.ref b5), .val (.ref b7), .val (.int (f2 p0 p2)), .val (.int (f2 p1 p3)), .val (.int (f0_z2 p0 p1 p2 p3 q4 q5)), .val (.int (f0_t3 p0 p1 p2 p3 q4 q5)), .val (.int (f0_t4 p0 p1 p2 p3 q4 q5))] [(.int (0 : Int32))])) (fun _ k => XS.iconst X17.here hx rfl (hb hby at_149) k) ?_
      have r21 : (f0 p0 p1 p2 p3 q4 q5) = (0 : Int32) := by unfold f0; rw [if_pos hc18, if_neg hc19]
      exact end_nar X17 hx Bd.notSynchronized (t := .boolean) Bd.returns (by simp) (hb hby at_150) hF e17 (by decide) (by decide) ⟨(congrArg (fun z => some (Value.int z)) (r21.symm.trans (own_law p0 p1 p2 p3 q4 q5))), N17⟩
  · refine go (B := T17.setTop (mkF m 149 #[.val (.int p0), .val (.int p1), .val (.int p2), .val (.int p3), .val (.long q4), .second, .val (.long q5), .second, .val (.int (f1 (q4.toInt32))), .val (.int (f1 (((q4.toUInt64 >>> ((32 : Int32) &&& 0x3f).toInt64.toUInt64).toInt64).toInt32))), .val (.int (f1 (q5.toInt32))), .val (.int (f1 (((q5.toUInt64 >>> ((32 : Int32) &&& 0x3f).toInt64.toUInt64).toInt64).toInt32))), .val (.ref b5), .val (.ref b7), .val (.int (f2 p0 p2)), .val (.int (f2 p1 p3)), .val (.int (f0_z2 p0 p1 p2 p3 q4 q5)), .val (.int (f0_t3 p0 p1 p2 p3 q4 q5)), .val (.int (f0_t4 p0 p1 p2 p3 q4 q5))] [])) (fun _ k => XS.icmpYes X17.here hx rfl (pc0 := 135) (pc' := 149) rfl (hb hby at_135) rfl (feq hc18).2 (by decide) (by decide) k) ?_
    refine go (B := T17.setTop (mkF m 150 #[.val (.int p0), .val (.int p1), .val (.int p2), .val (.int p3), .val (.long q4), .second, .val (.long q5), .second, .val (.int (f1 (q4.toInt32))), .val (.int (f1 (((q4.toUInt64 >>> ((32 : Int32) &&& 0x3f).toInt64.toUInt64).toInt64).toInt32))), .val (.int (f1 (q5.toInt32))), .val (.int (f1 (((q5.toUInt64 >>> ((32 : Int32) &&& 0x3f).toInt64.toUInt64).toInt64).toInt32))), .val (.ref b5), .val (.ref b7), .val (.int (f2 p0 p2)), .val (.int (f2 p1 p3)), .val (.int (f0_z2 p0 p1 p2 p3 q4 q5)), .val (.int (f0_t3 p0 p1 p2 p3 q4 q5)), .val (.int (f0_t4 p0 p1 p2 p3 q4 q5))] [(.int (0 : Int32))])) (fun _ k => XS.iconst X17.here hx rfl (hb hby at_149) k) ?_
    have r22 : (f0 p0 p1 p2 p3 q4 q5) = (0 : Int32) := by unfold f0; rw [if_neg hc18]
    exact end_nar X17 hx Bd.notSynchronized (t := .boolean) Bd.returns (by simp) (hb hby at_150) hF e17 (by decide) (by decide) ⟨(congrArg (fun z => some (Value.int z)) (r22.symm.trans (own_law p0 p1 p2 p3 q4 q5))), N17⟩
set_option maxRecDepth 65536 in
set_option maxHeartbeats 40000000 in
theorem comes_1 {Post : Tables → Env → Array Value → State → Outcome → State → Prop} (hpost : ∀ tb e args s v u, (limb_1_1.after args s (.returned v) u = true ∧ limb_1_2.after args s (.returned v) u = true ∧ True) → FrameEnd s (.returned v) u (Jvm.fieldLocs frame_1_writes args s ++ Jvm.arrayLocs frame_1_arrays args s ++ Jvm.staticLocs frame_1_statics s) 16 128 → Post tb e args s (.returned v) u) :
    ArmFor flags0 classFile x code maxLocals ret World_1 tables_1 room_1 Calls_1 rest_1 Pre_1 Post := by
  intro l hfl _ _ p e ha hc hk s m args below hf hA hF happ hP
  obtain ⟨hcalls, hrest, hpre⟩ := hP
  obtain ⟨-, -, -, hnamed, -, -, -, hat⟩ := (Spec.applies_iff hf).mp happ
  obtain ⟨hg, hn⟩ := and_e (Cond.before_iff.mp (show (Jvm.Cond.and given_1 narrow_1).before args s = true from hpre))
  obtain ⟨gg1, gg2⟩ := and_e hg
  obtain ⟨gg3, gg4⟩ := and_e gg2
  obtain ⟨gg5, gg6⟩ := and_e gg4
  obtain ⟨gg7, gg8⟩ := and_e gg6
  obtain ⟨gg9, gg10⟩ := and_e gg8
  obtain ⟨gg11, gg12⟩ := and_e gg10
  obtain ⟨w0, w1, w2, w3, w4, w5, rfl⟩ : ∃ w0 w1 w2 w3 w4 w5 : Value, args = #[w0, w1, w2, w3, w4, w5] := by
    have hs : args.size = 6 := by simpa [Cond.value, given_1] using gg1
    obtain ⟨L⟩ := args
    match L, hs with
    | [w0, w1, w2, w3, w4, w5], _ => exact ⟨w0, w1, w2, w3, w4, w5, rfl⟩
  have hw := fun d (hd : d ∈ tables_1) => atoms_spec (ws := Jvm.Cond.code x code maxLocals ret :: tables_1) hat d (List.mem_cons_of_mem _ hd)
  have hfit : Fit s := fun {y c} hc i hi => by
    obtain ⟨ha, rfl⟩ := Array.getElem?_eq_some_iff.mp hc
    have q := List.all_eq_true.mp ((Array.all_eq_true_iff_forall_mem.mp hF) _ (Array.getElem_mem ha)) i (List.mem_range.mpr hi)
    simpa [Array.getElem?_eq_getElem hi] using q
  obtain ⟨i0, ei0⟩ := is_v gg3
  obtain rfl : w0 = (.int i0) := Option.some.inj ei0
  obtain ⟨i1, ei1⟩ := is_v gg5
  obtain rfl : w1 = (.int i1) := Option.some.inj ei1
  obtain ⟨i2, ei2⟩ := is_v gg7
  obtain rfl : w2 = (.int i2) := Option.some.inj ei2
  obtain ⟨i3, ei3⟩ := is_v gg9
  obtain rfl : w3 = (.int i3) := Option.some.inj ei3
  obtain ⟨i4, ei4⟩ := isL_v gg11
  obtain rfl : w4 = (.long i4) := Option.some.inj ei4
  obtain ⟨i5, ei5⟩ := isL_v gg12
  obtain rfl : w5 = (.long i5) := Option.some.inj ei5
  obtain ⟨n, o, h1, h2, h3, _, L, rfl, ⟨rfl, N⟩, hq⟩ := rm0 l s _ hw tables_1 i0 i1 i2 i3 i4 i5 s.heap s.heap.size (Nat.le_refl _)  p e ha hc hk s m _ below hf ((Spec.applies_iff_loose hf).mp happ).1 ⟨rfl, State.Warmed39.refl s, rfl⟩ trivial
  refine ⟨n, _, h1, h2, h3, hpost _ _ _ _ _ _ ⟨Cond.after_iff.mpr rfl, Cond.after_iff.mpr (eq_i res_at (Term.int_eval (1)) rfl), trivial⟩ ⟨hq.1, hq.2.1, (hq.2.2.sift fun y hy => Or.inr (N y hy)).mono (by decide) (by decide)⟩⟩
theorem main_1_1 : Claimed_1_1 := comes_1 fun _ _ _ _ _ _ h hF => ⟨h.1, hF⟩
theorem main_1_2 : Claimed_1_2 := comes_1 fun _ _ _ _ _ _ h hF => ⟨h.2.1, hF⟩
end Jvm.Pilot.@@N@@
namespace Jvm.Pilot.@@N@@
open Jvm Jvm.ClassFile Sem Op Lib Jvm.Free Jvm.Stand Jvm.Pilot.@@N@@.Jvm.D
/-! MADE BY PROGRAM (witnessworld.py) out of the Statement's table words and the real class files: 10 classes; the members and pool entries that the words name. The judged class is class 1, her method 2. -/
namespace start1
open Jvm.ClassFile
def u (s : String) : CpInfo := .utf8 (stringToUtf16 s)
/-- a pool by its gaps: so many unusable entries, then the entry; so many at the end -/
def gap : Nat → List CpInfo → List CpInfo
  | 0, r => r
  | n + 1, r => .unusable :: gap n r
def poolList (es : List (Nat × CpInfo)) (last : Nat) : List CpInfo := es.foldr (fun e r => gap e.1 (e.2 :: r)) (gap last [])
def pool (es : List (Nat × CpInfo)) (last : Nat) : Array CpInfo := ⟨poolList es last⟩
def fileOf (pool : Array CpInfo) (this : Nat) (attrs : Array Attribute := #[]) (ms : Array MethodInfo := #[]) (fl : Nat := 33) (sup : Nat := 0) (ifs : Array Nat := #[]) (fds : Array FieldInfo := #[]) : ClassFile where
  minorVersion := 0
  majorVersion := 65
  constantPool := pool
  accessFlags := fl
  thisClass := this
  superClass := sup
  interfaces := ifs
  fields := fds
  methods := ms
  attributes := attrs
def plain (name : String) (sup : Option ClassId) : Class where
  name := name
  kind := .ordinary
  loader := none
  accessFlags := 33
  super := sup
  interfaces := #[]
  cf := none
  fields := #[]
  methods := #[]
  instanceTypes := #[]
  staticTypes := #[]
  resolved := #[]
  callSites := []
  init := .initialized
  statics := none
  mirror := none

def pool0 : Array CpInfo := pool [(5, u "<init>"), (0, u "()V"), (1, .class_ 10), (1, u "java/lang/Object")] 113

def k0c0 : Code := { maxStack := 0, maxLocals := 1, code := object_method_1_code, exceptionTable := #[], attributes := #[] }
def k0m0 : Method := { name := "<init>", desc := "()V", sig := { parameters := [], returnType := none }, accessFlags := 1, code := some k0c0 }
/-- java/lang/Object -/
def k0 : Class := { plain "java/lang/Object" none with
  accessFlags := 33
  interfaces := #[]
  cf := some (fileOf pool0 8 #[] #[{ accessFlags := 1, nameIndex := 5, descriptorIndex := 6, attributes := #[] }] 33 0 #[] #[])
  fields := #[]
  methods := #[k0m0]
  instanceTypes := #[]
  staticTypes := #[]
  resolved := Array.replicate 124 none
  statics := none }

def pool1 : Array CpInfo := pool [(2, .class_ 4), (1, u "java/lang/Object"), (0, u "<init>"), (0, u "()V"), (0, .integer 2147483647), (0, .methodref 9 10), (0, .class_ 11), (0, .nameAndType 12 13), (0, u "java/lang/Math"), (0, u "max"), (0, u "(II)I"), (0, .methodref 15 16), (0, .class_ 17), (0, .nameAndType 18 19), (0, u "com/example/fenced_widget/fencedwidget/fence/BoundsOverlapsPinLaw"), (0, u "size"), (0, u "(I)I"), (0, .class_ 21), (0, u "com/example/fenced_widget/fencedwidget/fence/Bounds"), (0, .methodref 20 23), (0, .nameAndType 5 24), (0, u "(IIII)V"), (0, .methodref 20 26), (0, .nameAndType 27 28), (0, u "contains"), (0, u "(II)Z"), (0, .methodref 20 30), (0, .nameAndType 31 32), (0, u "overlaps"), (0, u "(Lcom/example/fenced_widget/fencedwidget/fence/Bounds;)Z"), (2, u "law"), (0, u "(IIIIJJ)Z")] 3

def k1m0 : Method := { name := "<init>", desc := "()V", sig := { parameters := [], returnType := none }, accessFlags := 1, code := none }
def k1c1 : Code := { maxStack := 3, maxLocals := 1, code := method_2_code, exceptionTable := #[], attributes := #[] }
def k1m1 : Method := { name := "size", desc := "(I)I", sig := { parameters := [.int], returnType := some .int }, accessFlags := 10, code := some k1c1 }
def k1c2 : Code := { maxStack := 6, maxLocals := 19, code := code, exceptionTable := #[], attributes := #[] }
def k1m2 : Method := { name := "law", desc := "(IIIIJJ)Z", sig := { parameters := [.int, .int, .int, .int, .long, .long], returnType := some .boolean }, accessFlags := 9, code := some k1c2 }
/-- com/example/fenced_widget/fencedwidget/fence/BoundsOverlapsPinLaw -/
def k1 : Class := { plain "com/example/fenced_widget/fencedwidget/fence/BoundsOverlapsPinLaw" (some 0) with
  accessFlags := 49
  interfaces := #[]
  cf := some (fileOf pool1 15 #[] #[{ accessFlags := 1, nameIndex := 5, descriptorIndex := 6, attributes := #[] }, { accessFlags := 10, nameIndex := 18, descriptorIndex := 19, attributes := #[] }, { accessFlags := 9, nameIndex := 35, descriptorIndex := 36, attributes := #[] }] 49 2 #[] #[])
  fields := #[]
  methods := #[k1m0, k1m1, k1m2]
  instanceTypes := #[]
  staticTypes := #[]
  resolved := Array.replicate 40 none
  statics := none }

def pool2 : Array CpInfo := pool [(1, .class_ 2), (0, u "java/lang/Math"), (1, .class_ 6), (1, u "java/lang/Object"), (0, u "<init>"), (0, u "()V"), (89, .class_ 100), (1, u "java/lang/Math$RandomNumberGeneratorHolder"), (71, u "negativeZeroFloatBits"), (0, u "J"), (2, u "negativeZeroDoubleBits"), (21, u "max"), (46, u "$assertionsDisabled"), (0, u "Z"), (88, u "(II)I"), (2, u "twoToTheDoubleScaleDown"), (0, u "D"), (4, u "twoToTheDoubleScaleUp"), (9, u "E"), (3, u "PI"), (2, u "TAU"), (2, u "DEGREES_TO_RADIANS"), (0, u "RADIANS_TO_DEGREES")] 94

def k2m0 : Method := { name := "<init>", desc := "()V", sig := { parameters := [], returnType := none }, accessFlags := 2, code := none }
def k2c1 : Code := { maxStack := 2, maxLocals := 2, code := jdk_29_method_65_code, exceptionTable := #[], attributes := #[] }
def k2m1 : Method := { name := "max", desc := "(II)I", sig := { parameters := [.int, .int], returnType := some .int }, accessFlags := 9, code := some k2c1 }
/-- java/lang/Math -/
def k2 : Class := { plain "java/lang/Math" (some 0) with
  accessFlags := 49
  interfaces := #[]
  cf := some (fileOf pool2 1 #[.nestMembers #[98]] #[{ accessFlags := 2, nameIndex := 7, descriptorIndex := 8, attributes := #[] }, { accessFlags := 9, nameIndex := 198, descriptorIndex := 335, attributes := #[] }] 49 4 #[] #[{ accessFlags := 25, nameIndex := 354, descriptorIndex := 339, attributes := #[] }, { accessFlags := 25, nameIndex := 358, descriptorIndex := 339, attributes := #[] }, { accessFlags := 25, nameIndex := 361, descriptorIndex := 339, attributes := #[] }, { accessFlags := 26, nameIndex := 364, descriptorIndex := 339, attributes := #[] }, { accessFlags := 26, nameIndex := 365, descriptorIndex := 339, attributes := #[] }, { accessFlags := 26, nameIndex := 172, descriptorIndex := 173, attributes := #[] }, { accessFlags := 26, nameIndex := 176, descriptorIndex := 173, attributes := #[] }, { accessFlags := 8, nameIndex := 344, descriptorIndex := 339, attributes := #[] }, { accessFlags := 8, nameIndex := 338, descriptorIndex := 339, attributes := #[] }, { accessFlags := 4120, nameIndex := 245, descriptorIndex := 246, attributes := #[] }])
  fields := #[{ name := "E", type := .double, accessFlags := 25, slot := 0, constantValue := 0 }, { name := "PI", type := .double, accessFlags := 25, slot := 1, constantValue := 0 }, { name := "TAU", type := .double, accessFlags := 25, slot := 2, constantValue := 0 }, { name := "DEGREES_TO_RADIANS", type := .double, accessFlags := 26, slot := 3, constantValue := 0 }, { name := "RADIANS_TO_DEGREES", type := .double, accessFlags := 26, slot := 4, constantValue := 0 }, { name := "negativeZeroFloatBits", type := .long, accessFlags := 26, slot := 5, constantValue := 0 }, { name := "negativeZeroDoubleBits", type := .long, accessFlags := 26, slot := 6, constantValue := 0 }, { name := "twoToTheDoubleScaleUp", type := .double, accessFlags := 8, slot := 7, constantValue := 0 }, { name := "twoToTheDoubleScaleDown", type := .double, accessFlags := 8, slot := 8, constantValue := 0 }, { name := "$assertionsDisabled", type := .boolean, accessFlags := 4120, slot := 9, constantValue := 0 }]
  methods := #[k2m0, k2m1]
  instanceTypes := #[]
  staticTypes := #[.double, .double, .double, .double, .double, .long, .long, .double, .double, .boolean]
  resolved := Array.replicate 460 none
  statics := none }

def pool3 : Array CpInfo := pool [(1, .methodref 2 3), (0, .class_ 4), (0, .nameAndType 5 6), (0, u "java/lang/Object"), (0, u "<init>"), (0, u "()V"), (0, .fieldref 8 9), (0, .class_ 10), (0, .nameAndType 11 12), (0, u "com/example/fenced_widget/fencedwidget/fence/Bounds"), (0, u "x"), (0, u "I"), (0, .fieldref 8 14), (0, .nameAndType 15 12), (0, u "y"), (0, .fieldref 8 17), (0, .nameAndType 18 12), (0, u "width"), (0, .fieldref 8 20), (0, .nameAndType 21 12), (0, u "height"), (14, u "(IIII)V"), (4, u "contains"), (0, u "(II)Z"), (1, u "overlaps"), (0, u "(Lcom/example/fenced_widget/fencedwidget/fence/Bounds;)Z")] 15

def k3c0 : Code := { maxStack := 2, maxLocals := 5, code := prog_3_method_1_code, exceptionTable := #[], attributes := #[] }
def k3m0 : Method := { name := "<init>", desc := "(IIII)V", sig := { parameters := [.int, .int, .int, .int], returnType := none }, accessFlags := 0, code := some k3c0 }
def k3c1 : Code := { maxStack := 4, maxLocals := 3, code := prog_3_method_2_code, exceptionTable := #[], attributes := #[] }
def k3m1 : Method := { name := "contains", desc := "(II)Z", sig := { parameters := [.int, .int], returnType := some .boolean }, accessFlags := 0, code := some k3c1 }
def k3c2 : Code := { maxStack := 6, maxLocals := 2, code := prog_3_method_3_code, exceptionTable := #[], attributes := #[] }
def k3m2 : Method := { name := "overlaps", desc := "(Lcom/example/fenced_widget/fencedwidget/fence/Bounds;)Z", sig := { parameters := [(.object "com/example/fenced_widget/fencedwidget/fence/Bounds")], returnType := some .boolean }, accessFlags := 0, code := some k3c2 }
/-- com/example/fenced_widget/fencedwidget/fence/Bounds -/
def k3 : Class := { plain "com/example/fenced_widget/fencedwidget/fence/Bounds" (some 0) with
  accessFlags := 48
  interfaces := #[]
  cf := some (fileOf pool3 8 #[] #[{ accessFlags := 0, nameIndex := 5, descriptorIndex := 36, attributes := #[] }, { accessFlags := 0, nameIndex := 41, descriptorIndex := 42, attributes := #[] }, { accessFlags := 0, nameIndex := 44, descriptorIndex := 45, attributes := #[] }] 48 2 #[] #[{ accessFlags := 18, nameIndex := 11, descriptorIndex := 12, attributes := #[] }, { accessFlags := 18, nameIndex := 15, descriptorIndex := 12, attributes := #[] }, { accessFlags := 18, nameIndex := 18, descriptorIndex := 12, attributes := #[] }, { accessFlags := 18, nameIndex := 21, descriptorIndex := 12, attributes := #[] }])
  fields := #[{ name := "x", type := .int, accessFlags := 18, slot := 0, constantValue := 0 }, { name := "y", type := .int, accessFlags := 18, slot := 1, constantValue := 0 }, { name := "width", type := .int, accessFlags := 18, slot := 2, constantValue := 0 }, { name := "height", type := .int, accessFlags := 18, slot := 3, constantValue := 0 }]
  methods := #[k3m0, k3m1, k3m2]
  instanceTypes := #[.int, .int, .int, .int]
  staticTypes := #[]
  resolved := Array.replicate 61 none
  statics := none }

def pool4 : Array CpInfo := pool [(1, u "java/lang/Cloneable"), (0, .class_ 1), (0, u "java/lang/Object"), (0, .class_ 3)] 3

/-- java/lang/Cloneable -/
def k4 : Class := { plain "java/lang/Cloneable" (some 0) with
  accessFlags := 1537
  interfaces := #[]
  cf := some (fileOf pool4 2 #[] #[] 1537 4 #[] #[])
  fields := #[]
  methods := #[]
  instanceTypes := #[]
  staticTypes := #[]
  resolved := Array.replicate 8 none
  statics := none }

def pool5 : Array CpInfo := pool [(1, u "java/io/Serializable"), (0, .class_ 1), (0, u "java/lang/Object"), (0, .class_ 3)] 3

/-- java/io/Serializable -/
def k5 : Class := { plain "java/io/Serializable" (some 0) with
  accessFlags := 1537
  interfaces := #[]
  cf := some (fileOf pool5 2 #[] #[] 1537 4 #[] #[])
  fields := #[]
  methods := #[]
  instanceTypes := #[]
  staticTypes := #[]
  resolved := Array.replicate 8 none
  statics := none }

/-- the primitive byte -/
def k6 : Class := { plain "byte" none with kind := .primitive 'B', accessFlags := 0x411 }
/-- [B -/
def k7 : Class := { plain "[B" (some 0) with kind := .array 6 .byte, interfaces := #[4, 5], accessFlags := 1041 }

/-- the primitive int -/
def k8 : Class := { plain "int" none with kind := .primitive 'I', accessFlags := 0x411 }
/-- [I -/
def k9 : Class := { plain "[I" (some 0) with kind := .array 8 .int, interfaces := #[4, 5], accessFlags := 1041 }

def heap : Heap := #[]
def classes : Array Class := #[k0, k1, k2, k3, k4, k5, k6, k7, k8, k9]
def interned : List (Array UInt16 × Addr) := []
def slotsUsed : Nat := 0
def theMethod : MethodId := ⟨1, 2⟩
def args0 : Array Value := #[.int 5, .int 5, .int 5, .int 5, .long 7, .long 7]
def aboutOver (below : List Frame) : State where
  vm := { classes := classes, interned := interned.toArray }
  heap := heap
  slotsUsed := slotsUsed
  threads := #[{ frames := .invoking theMethod args0 :: below }]
def below0 : List Frame := [.native { method := ⟨0, 0⟩, args := #[] }]
def about1 : State := aboutOver below0
def p0 : Program := .bare "" "" ""
def e0 : Env := launch0.env 0 0 0
theorem w_frames : about1.frames = Frame.invoking theMethod args0 :: below0 := rfl
set_option maxRecDepth 65536 in
theorem w_args : argsFit about1.vm theMethod args0 = true := by decide +kernel
set_option maxRecDepth 65536 in
theorem w_heap : heapFits about1 = true := by decide +kernel
set_option maxRecDepth 65536 in
theorem w_runnable : about1.curStatus? = some .runnable := by decide +kernel
set_option maxRecDepth 65536 in
theorem w_alone : about1.alone = true := by decide +kernel
set_option maxRecDepth 65536 in
theorem w_named : about1.methodNamed? x = some theMethod := by decide +kernel
set_option maxRecDepth 65536 in
theorem w_hears : about1.hears theMethod below0 = true := by decide +kernel
set_option maxRecDepth 65536 in
theorem w_ripe : about1.ripe theMethod args0 below0 = true := by decide +kernel
theorem w_running : about1.status = .running := rfl
set_option maxRecDepth 65536 in
theorem w_room : about1.hasRoom e0.platform room_1 = true :=
  launch0.hasRoom_least _ room_1 (by decide +kernel) (by decide +kernel) (by decide +kernel) (by decide +kernel) (by decide +kernel) (by decide +kernel)
theorem allAtoms_all (ts : List Jvm.Cond) (a : Array Jvm.Value) (st : Jvm.State) : (allAtoms ts).before a st = ts.all (fun c => c.before a st) := by
  induction ts with
  | nil => rfl
  | cons c t ih =>
    show (Jvm.Cond.and c (allAtoms t)).before a st = _
    rw [Jvm.Cond.before_and, ih, List.all_cons]
def words1 : List Jvm.Cond := Jvm.Cond.code x code maxLocals ret :: tables_1
/-- a 'code' word, met by the world's own term for the bytes: nothing is compared byte by byte -/
theorem code_word {y : MethodName} {bytes : ByteArray} {mx : Nat} {rt : Option FieldType} {a : Array Value} {s : State} {m : MethodId} {meth : Method} {c : Code} (h1 : s.methodNamed? y = some m) (h2 : s.vm.method? m = some meth) (h3 : meth.code = some c) (h4 : c.code = bytes)
    (h5 : (c.maxLocals == mx && c.exceptionTable.isEmpty && decide (c.maxStack ≤ mostOperands) && decide (meth.sig.returnType = rt) && !meth.locks && decide (parseMethodDescriptor y.desc = some meth.sig)) = true) : (Jvm.Cond.code y bytes mx rt).before a s = true := by
  simp only [Bool.and_eq_true, beq_iff_eq, Bool.not_eq_true', decide_eq_true_eq] at h5
  obtain ⟨⟨⟨⟨⟨g1, g2⟩, g3⟩, g4⟩, g5⟩, g6⟩ := h5
  simp [Cond.before, Cond.holds, Cond.value, h1, h2, h3, h4, g1, g2, g3, g4, g5, g6]
def isCode : Jvm.Cond → Bool
  | .code _ _ _ _ => true
  | _ => false
theorem all_split {L : List Jvm.Cond} {P : Jvm.Cond → Bool} (h1 : L.all (fun c => isCode c || P c) = true) (h2 : ∀ c ∈ L.filter isCode, P c = true) : L.all P = true := by
  refine List.all_eq_true.mpr fun c hc => ?_
  have h := List.all_eq_true.mp h1 c hc
  rcases Bool.eq_false_or_eq_true (isCode c) with hi | hi
  · exact h2 c (List.mem_filter.mpr ⟨hc, hi⟩)
  · simpa [hi] using h
set_option maxRecDepth 65536 in
theorem w_c0 : (Jvm.Cond.code x code maxLocals ret).before args0 about1 = true := code_word (m := ⟨1, 2⟩) (meth := k1m2) (c := k1c2) (by decide +kernel) rfl rfl rfl (by decide +kernel)
set_option maxRecDepth 65536 in
theorem w_c1 : (Jvm.Cond.code ({ cls := "com/example/fenced_widget/fencedwidget/fence/BoundsOverlapsPinLaw", name := "size", desc := "(I)I" } : Jvm.MethodName) method_2_code (1 : Nat) (Option.some Jvm.ClassFile.FieldType.int)).before args0 about1 = true := code_word (m := ⟨1, 1⟩) (meth := k1m1) (c := k1c1) (by decide +kernel) rfl rfl rfl (by decide +kernel)
set_option maxRecDepth 65536 in
theorem w_c2 : (Jvm.Cond.code ({ cls := "java/lang/Math", name := "max", desc := "(II)I" } : Jvm.MethodName) jdk_29_method_65_code (2 : Nat) (Option.some Jvm.ClassFile.FieldType.int)).before args0 about1 = true := code_word (m := ⟨2, 1⟩) (meth := k2m1) (c := k2c1) (by decide +kernel) rfl rfl rfl (by decide +kernel)
set_option maxRecDepth 65536 in
theorem w_c3 : (Jvm.Cond.code ({ cls := "com/example/fenced_widget/fencedwidget/fence/Bounds", name := "<init>", desc := "(IIII)V" } : Jvm.MethodName) prog_3_method_1_code (5 : Nat) (Option.none : Option Jvm.ClassFile.FieldType)).before args0 about1 = true := code_word (m := ⟨3, 0⟩) (meth := k3m0) (c := k3c0) (by decide +kernel) rfl rfl rfl (by decide +kernel)
set_option maxRecDepth 65536 in
theorem w_c4 : (Jvm.Cond.code ({ cls := "java/lang/Object", name := "<init>", desc := "()V" } : Jvm.MethodName) object_method_1_code (1 : Nat) (Option.none : Option Jvm.ClassFile.FieldType)).before args0 about1 = true := code_word (m := ⟨0, 0⟩) (meth := k0m0) (c := k0c0) (by decide +kernel) rfl rfl rfl (by decide +kernel)
set_option maxRecDepth 65536 in
theorem w_c5 : (Jvm.Cond.code ({ cls := "com/example/fenced_widget/fencedwidget/fence/Bounds", name := "contains", desc := "(II)Z" } : Jvm.MethodName) prog_3_method_2_code (3 : Nat) (Option.some Jvm.ClassFile.FieldType.boolean)).before args0 about1 = true := code_word (m := ⟨3, 1⟩) (meth := k3m1) (c := k3c1) (by decide +kernel) rfl rfl rfl (by decide +kernel)
set_option maxRecDepth 65536 in
theorem w_c6 : (Jvm.Cond.code ({ cls := "com/example/fenced_widget/fencedwidget/fence/Bounds", name := "overlaps", desc := "(Lcom/example/fenced_widget/fencedwidget/fence/Bounds;)Z" } : Jvm.MethodName) prog_3_method_3_code (2 : Nat) (Option.some Jvm.ClassFile.FieldType.boolean)).before args0 about1 = true := code_word (m := ⟨3, 2⟩) (meth := k3m2) (c := k3c2) (by decide +kernel) rfl rfl rfl (by decide +kernel)
def codes1 : List Jvm.Cond := [Jvm.Cond.code x code maxLocals ret, Jvm.Cond.code ({ cls := "com/example/fenced_widget/fencedwidget/fence/BoundsOverlapsPinLaw", name := "size", desc := "(I)I" } : Jvm.MethodName) method_2_code (1 : Nat) (Option.some Jvm.ClassFile.FieldType.int), Jvm.Cond.code ({ cls := "java/lang/Math", name := "max", desc := "(II)I" } : Jvm.MethodName) jdk_29_method_65_code (2 : Nat) (Option.some Jvm.ClassFile.FieldType.int), Jvm.Cond.code ({ cls := "com/example/fenced_widget/fencedwidget/fence/Bounds", name := "<init>", desc := "(IIII)V" } : Jvm.MethodName) prog_3_method_1_code (5 : Nat) (Option.none : Option Jvm.ClassFile.FieldType), Jvm.Cond.code ({ cls := "java/lang/Object", name := "<init>", desc := "()V" } : Jvm.MethodName) object_method_1_code (1 : Nat) (Option.none : Option Jvm.ClassFile.FieldType), Jvm.Cond.code ({ cls := "com/example/fenced_widget/fencedwidget/fence/Bounds", name := "contains", desc := "(II)Z" } : Jvm.MethodName) prog_3_method_2_code (3 : Nat) (Option.some Jvm.ClassFile.FieldType.boolean), Jvm.Cond.code ({ cls := "com/example/fenced_widget/fencedwidget/fence/Bounds", name := "overlaps", desc := "(Lcom/example/fenced_widget/fencedwidget/fence/Bounds;)Z" } : Jvm.MethodName) prog_3_method_3_code (2 : Nat) (Option.some Jvm.ClassFile.FieldType.boolean)]
set_option maxRecDepth 65536 in
theorem codes_eq : words1.filter isCode = codes1 := rfl
theorem w_codes : ∀ c ∈ words1.filter isCode, c.before args0 about1 = true := by
  rw [codes_eq]
  intro c hc
  simp only [codes1, List.mem_cons, List.not_mem_nil, or_false] at hc
  rcases hc with rfl | rfl | rfl | rfl | rfl | rfl | rfl
  · exact w_c0
  · exact w_c1
  · exact w_c2
  · exact w_c3
  · exact w_c4
  · exact w_c5
  · exact w_c6
set_option maxRecDepth 65536 in
theorem w_t1 : (words1.take 24).all (fun c => isCode c || c.before args0 about1) = true := by decide +kernel
set_option maxRecDepth 65536 in
theorem w_t2 : (words1.drop 24).all (fun c => isCode c || c.before args0 about1) = true := by decide +kernel
theorem w_tables : (allAtoms (Jvm.Cond.code x code maxLocals ret :: tables_1)).before args0 about1 = true := by
  rw [allAtoms_all]
  show words1.all (fun c => c.before args0 about1) = true
  refine all_split ?_ w_codes
  rw [← List.take_append_drop 24 words1, List.all_append, w_t1, w_t2]
  rfl
set_option maxRecDepth 65536 in
theorem w_case : (Jvm.Cond.and given_1 narrow_1).before args0 about1 = true := by decide +kernel
theorem w_applies : (headSpec (Jvm.Cond.code x code maxLocals ret :: tables_1) room_1).applies x e0.platform about1 = true :=
  (Spec.applies_iff w_frames).mpr ⟨w_running, w_runnable, w_alone, w_named, w_hears, w_ripe, w_room, w_tables⟩
theorem atStart : AtStart classFile x code maxLocals ret World_1 tables_1 room_1 Calls_1 rest_1 Pre_1 launch0 p0 e0 about1 theMethod args0 below0 :=
  ⟨lists_1, trivial, launch0.admits_env _ _ _, launch0.least_env, fairChoices_fair.cas, fairChoices_fair.clock, w_frames, w_args, w_heap, w_applies, trivial, trivial, w_case⟩
end start1
theorem witness_1 : WitnessClaimed_1 := ⟨start1.p0, start1.e0, start1.about1, start1.theMethod, start1.args0, start1.below0, start1.atStart⟩
end Jvm.Pilot.@@N@@
