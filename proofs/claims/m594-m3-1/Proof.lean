import JvmDerived
import JvmDerived.Pilot.@@N@@Statement
import JvmDerived.Pilot.@@N@@Code
set_option linter.unusedVariables false
set_option linter.unusedSimpArgs false
namespace Jvm.Pilot.@@N@@
open Jvm Jvm.ClassFile Sem Op Lib Jvm.Free Jvm.Stand Jvm.LawKit Jvm.RoadKit Bundle Jvm.Pilot.@@N@@.Jvm.D
/-! own: the walk's goal, read backwards -/
def Go (tb : Tables) (e : Env) (below : List Frame) (F : State → Outcome → Prop) (A : State) : Prop := ∃ t o, Steps tb e below A t ∧ F t o
def Fin (below : List Frame) (s : State) (Q : Option Value → Heap → List Loc → Prop) (k n : Nat) (t : State) (o : Outcome) : Prop := t.status = .running ∧ Ended t below o ∧ ∃ v L, o = .returned v ∧ Q v t.heap L ∧ FrameEnd s o t L k n
theorem go {tb : Tables} {e : Env} {below : List Frame} {F : State → Outcome → Prop} {A B : State} (st : ∀ t, Steps tb e below B t → Steps tb e below A t) (h : Go tb e below F B) : Go tb e below F A := by
  obtain ⟨t, o, h1, h2⟩ := h
  exact ⟨t, o, st t h1, h2⟩
theorem go_in {p : Program} {e : Env} {below : List Frame} {s s₁ : State} {Q : Option Value → Heap → List Loc → Prop} {k n : Nat} {A : State} (h : ∀ F : State → Outcome → Prop, (∀ t o, Fin below s Q k n t o → F t o) → Go p.tables e below F A) :
    ∃ t o, Steps p.tables e below A t ∧ t.status = .running ∧ Ended t below o ∧ ∃ v L, o = .returned v ∧ Q v t.heap L ∧ FrameEnd s o t L k n := by
  obtain ⟨t, o, h1, h2, h3, h4⟩ := h (Fin below s Q k n) (fun _ _ h => h)
  exact ⟨t, o, h1, h2, h3, h4⟩
theorem own_fld {s : State} {args : Array Value} {t : Term} {C n d : String} {a : Addr} {k : Int32} (ev : t.eval args s none [] s = some (.ref a)) (h : (Cond.eq (.field t C n d) (.int k)).value args s none s [] = some true) : Fld s s.heap a C n d (.int k) := Fld.start ((fld_at ev).symm.trans (eqv_i (Term.int_eval k) h))
def NSt (h : Heap) (x : Addr) : Prop := ∃ c : Cell, h[x]? = some c ∧ c.vm.isStatics = false
theorem own_sta_keep {Z : State} {h h' : Heap} {C n d : String} {v : Value} {ws : List Addr} (F : Sta Z h C n d v) (K : Keep h h' ws) (q : ∀ x ∈ ws, NSt h x) : Sta Z h' C n d v := by
  obtain ⟨cf, i, k, f, st, cell, h1, h2, h3, h4, h5, h6, h7⟩ := F
  refine ⟨cf, i, k, f, st, cell, h1, h2, h3, h4, K.2.1 _ _ h5 (fun z => ?_), h6, h7⟩
  obtain ⟨c, g1, g2⟩ := q _ z
  cases h5.symm.trans g1
  rw [h6] at g2; cases g2
end Jvm.Pilot.@@N@@
namespace Jvm.RoadKit
theorem Exa.ns {Z : State} {h : Heap} {a : Addr} {C : String} (F : Exa Z h a C) : Jvm.Pilot.@@N@@.NSt h a := by
  obtain ⟨c, _, h1, -, -, h4, -⟩ := F; exact ⟨c, h1, h4⟩
theorem Arv.ns {Z : State} {h : Heap} {a : Addr} {k : ClassId} {ty : ClassFile.FieldType} {z : Int32} {vs : List Value} {dv : Value} (F : Arv Z h a k ty z vs dv) : Jvm.Pilot.@@N@@.NSt h a := by
  obtain ⟨c, A, -⟩ := F; exact ⟨c, A.1, A.plain⟩
end Jvm.RoadKit
namespace Jvm.Pilot.@@N@@
open Jvm Jvm.ClassFile Sem Op Lib Jvm.Free Jvm.Stand Jvm.LawKit Jvm.RoadKit Bundle Jvm.Pilot.@@N@@.Jvm.D
theorem own_no {Z : State} {aw : Array Value} {X Y : String} {t : List String} {n : Nat} (hwc : ∀ w ∈ Cond.chainWords (X :: t), w.before aw Z = true) (wi : (Cond.instantiable Y n).before aw Z = true) (hn : Y ∉ X :: t) : ∃ c t, Z.vm.findClass X = some c ∧ Z.vm.findClass Y = some t ∧ Z.vm.assignable c t = false := by
  obtain ⟨cy, ky, hy1, hy2, hy3, hy4, -⟩ := Cond.instantiable_spec wi
  obtain ⟨cx, k, hx, -⟩ := Cond.chain_head hwc
  exact ⟨cx, cy, hx, hy1, Vm.notAssignable_of_chain hx hy1 hy2 hy3 (Bool.or_eq_false_iff.mp hy4).1 hwc hn⟩
theorem own_selp {Z s : State} {aw args : Array Value} {y : MethodName} {n : Nat} (hZ : Z.Warmed39 s.vm) (wi : (Cond.instantiable y.cls n).before aw Z = true) (wp : (Cond.privateMethod y).before aw Z = true) (wm : (Cond.instanceMethod y).before aw Z = true) (hy : y.cls ≠ "java/lang/invoke/MethodHandle" ∧ y.cls ≠ "java/lang/invoke/VarHandle") : (Cond.selects y.cls y y).before args s = true := by
  obtain ⟨c, k, h1, h2, -, h4, -⟩ := Cond.instantiable_spec (mvT (args := args) hZ wi)
  exact selects_self_of_private h1 h2 (Bool.or_eq_false_iff.mp h4).1 (Cond.privateMethod_at (mvP hZ wp (args := args))) (mvT hZ wm) hy
section Ends
variable {p : Program} {l : Launch} {e : Env} {R : Room} {s : State} {m : MethodId} {args : Array Value} {below : List Frame} {meth : Method} {c : Code} {T : State} {locs : List Loc} {cells slots : Nat} {F : State → Outcome → Prop} {Q : Option Value → Heap → List Loc → Prop} {k n : Nat} {pc : Nat} {Ls : Array Slot} {rest : List Value} {h : Heap}
/-- the end of a walk: what is returned, what the heap says -/
theorem go_end (X : Stand p l e R s m args below meth c T locs cells slots) (hlk : meth.locks = false) (hF : ∀ t o, Fin below s Q k n t o → F t o) (eT : T.heap = h) (hk : cells ≤ k) (hn : slots ≤ n) {v : Option Value} (hv : meth.sig.returnType = none → v = none) (hQ : Q v h locs) {A : State}
    (hs : ∀ fs, (∀ (f : JFrame) (acts : List Action), f.method = m → f.locked = none → f.entered = [] → (doReturn e (T.setTop f) acts v).1 = T.setFrames fs) → Steps p.tables e below A (T.setFrames fs)) : Go p.tables e below F A := by
  obtain ⟨fs, hr, hrun, hended, hW, hsame⟩ := X.leave (v := v) hv hlk
  subst eT
  exact ⟨_, _, hs fs hr, hF _ _ ⟨hrun, hended, _, _, rfl, hQ, ⟨_, rfl⟩, hW, hsame.mono hk hn⟩⟩
theorem end_void (X : Stand p l e R s m args below meth c T locs cells slots) (hx : p.tables.exec = Jvm.exec) (hlk : meth.locks = false) (hret : meth.sig.returnType = none) (hd : decode c.code pc = .ok (.return_, 1)) (hF : ∀ t o, Fin below s Q k n t o → F t o) (eT : T.heap = h) (hk : cells ≤ k) (hn : slots ≤ n) (hQ : Q none h locs) : Go p.tables e below F (T.setTop (mkF m pc Ls [])) :=
  go_end X hlk hF eT hk hn (fun _ => rfl) hQ fun fs hr => X.returnOut hx hret hd hr
theorem end_nar {z : Int32} {t : FieldType} (X : Stand p l e R s m args below meth c T locs cells slots) (hx : p.tables.exec = Jvm.exec) (hlk : meth.locks = false) (hret : meth.sig.returnType = some t) (ht : t = .boolean ∨ t = .byte ∨ t = .char ∨ t = .short) (hd : decode c.code pc = .ok (.ireturn, 1)) (hF : ∀ t o, Fin below s Q k n t o → F t o) (eT : T.heap = h) (hk : cells ≤ k) (hn : slots ≤ n) (hQ : Q (some (.int (nar t z))) h locs) : Go p.tables e below F (T.setTop (mkF m pc Ls (.int z :: rest))) :=
  go_end X hlk hF eT hk hn (fun h => by rw [hret] at h; cases h) hQ fun fs hr => retN X hx hret ht hd hr
theorem end_int {z : Int32} (X : Stand p l e R s m args below meth c T locs cells slots) (hx : p.tables.exec = Jvm.exec) (hlk : meth.locks = false) (hret : meth.sig.returnType = some .int) (hd : decode c.code pc = .ok (.ireturn, 1)) (hF : ∀ t o, Fin below s Q k n t o → F t o) (eT : T.heap = h) (hk : cells ≤ k) (hn : slots ≤ n) (hQ : Q (some (.int z)) h locs) : Go p.tables e below F (T.setTop (mkF m pc Ls (.int z :: rest))) :=
  go_end X hlk hF eT hk hn (fun h => by rw [hret] at h; cases h) hQ fun fs hr => retOut X hx hret rfl (Or.inl ⟨rfl, Or.inl rfl, _, rfl⟩) hd hr
theorem end_long {z : Int64} (X : Stand p l e R s m args below meth c T locs cells slots) (hx : p.tables.exec = Jvm.exec) (hlk : meth.locks = false) (hret : meth.sig.returnType = some .long) (hd : decode c.code pc = .ok (.lreturn, 1)) (hF : ∀ t o, Fin below s Q k n t o → F t o) (eT : T.heap = h) (hk : cells ≤ k) (hn : slots ≤ n) (hQ : Q (some (.long z)) h locs) : Go p.tables e below F (T.setTop (mkF m pc Ls (.long z :: rest))) :=
  go_end X hlk hF eT hk hn (fun h => by rw [hret] at h; cases h) hQ fun fs hr => retOut X hx hret rfl (Or.inr (Or.inl ⟨rfl, rfl, _, rfl⟩)) hd hr
theorem end_ref {w : Value} {t : FieldType} (X : Stand p l e R s m args below meth c T locs cells slots) (hx : p.tables.exec = Jvm.exec) (hlk : meth.locks = false) (hret : meth.sig.returnType = some t) (ht : t.isReference = true) (hw : w.isRef = true) (hnr : narrow t w = w) (hd : decode c.code pc = .ok (.areturn, 1)) (hF : ∀ t o, Fin below s Q k n t o → F t o) (eT : T.heap = h) (hk : cells ≤ k) (hn : slots ≤ n) (hQ : Q (some w) h locs) : Go p.tables e below F (T.setTop (mkF m pc Ls (w :: rest))) :=
  go_end X hlk hF eT hk hn (fun h => by rw [hret] at h; cases h) hQ fun fs hr => retOut X hx hret hnr (Or.inr (Or.inr (Or.inr (Or.inr ⟨rfl, ht, hw⟩)))) hd hr
end Ends
theorem d2_0 : decode jdk_30_method_1_code 0 = .ok (.aload_n 0, 1) := by decide +kernel
theorem d2_1 : decode jdk_30_method_1_code 1 = .ok (.invokespecial 1, 3) := by decide +kernel
theorem d2_4 : decode jdk_30_method_1_code 4 = .ok (.return_, 1) := by decide +kernel
theorem pn_2 : plainName "java/lang/Record" = true := by first | (simp [plainName, overriddenIn]; done) | decide +kernel
theorem ef_2 (m : MethodId) (a0 : Addr) : entryFrame m #[(.ref a0)] 1 = mkF m 0 #[.val (.ref a0)] [] := by first | (simp [entryFrame, mkF, argsToLocals, Value.category]; done) | rfl
abbrev room2 : Room := { frames := 1, cells := 0, slots := 0, locals := 12 }
def Q2 (Z : State) (a0 : Addr) (h0 : Heap) (n0 : Nat) (v : Option Value) (h : Heap) (L : List Loc) : Prop := v = none ∧ L = [] ∧ h = h0
set_option maxRecDepth 65536 in
set_option maxHeartbeats 40000000 in
theorem rm2 (l : Launch) (Z : State) (aw : Array Value) (hw : ∀ d ∈ tables_1, d.before aw Z = true) (ws : List Jvm.Cond) (a0 : Addr) (h0 : Heap) (n0 : Nat) (Z0 : n0 ≤ h0.size) :
    MetFree l (⟨"java/lang/Record", "<init>", "()V"⟩ : MethodName) (head1 (Jvm.Cond.code (⟨"java/lang/Record", "<init>", "()V"⟩ : MethodName) jdk_30_method_1_code 1 none :: ws) room2) (fun a U => a = #[(.ref a0)] ∧ Z.Warmed39 U.vm ∧ U.heap = h0) (fun _ _ _ _ _ => True) (fun _ U o U' => ∃ v L, o = .returned v ∧ Q2 Z a0 h0 n0 v U'.heap L ∧ FrameEnd U o U' L room2.cells room2.slots) := by
  refine MetFree.of_bodySF (plainFor_of_name pn_2) hisR ?_
  intro p e s m args below meth c s₁ Bd hml0 hP hK
  obtain ⟨rfl, hZ, hh⟩ := hP
  have hx := Bd.exec
  have hby := Bd.bytes
  have hml : c.maxLocals = 1 := hml0
  have hown : s.vm.findClass "java/lang/Record" = some m.cls := findClass_of_methodNamed Bd.named
  have hnm := (name_of_methodNamed Bd.named Bd.method).1
  have X0 : Stand p l e room2 s m #[(.ref a0)] below meth c s₁ [] 0 0 := Stand.of_body Bd
  have e0 : s₁.heap = h0 := by rw [← hh, Bd.state]; rfl
  have N0 := Fr.nil n0
  rw [ef_2 m a0]
  refine go_in (s₁ := s₁) (Q := Q2 Z a0 h0 n0) fun F hF => ?_
  refine go (B := s₁.setTop (mkF m 1 #[.val (.ref a0)] [(.ref a0)])) (fun _ k => XS.aloadN X0.here hx rfl (hb hby d2_0) rfl rfl k) ?_
  obtain ⟨T1, X1, e1, st1⟩ := initO X0 hx hZ hown (hw _ (List.mem_of_getElem? (i := 11) rfl)) (hw _ (List.mem_of_getElem? (i := 12) rfl)) (hw _ (List.mem_of_getElem? (i := 13) rfl)) e0 (g := (mkF m 1 #[.val (.ref a0)] [(.ref a0)])) rfl (by rw [hml]; rfl) rfl (hb hby d2_1) (by decide) (W := 0) (by show 2 * 0 + _ ≤ _; exact Nat.le_of_eq rfl) (by decide)
  refine go (B := T1.setTop (mkF m 4 #[.val (.ref a0)] [])) st1 ?_
  exact end_void X1 hx Bd.notSynchronized Bd.returns (hb hby d2_4) hF e1 (by decide) (by decide) ⟨rfl, rfl, rfl⟩
theorem pd_0 : parseMethodDescriptor "()V" = some ⟨[], none⟩ := by decide +kernel
theorem d1_0 : decode prog_36_method_1_code 0 = .ok (.aload_n 0, 1) := by decide +kernel
theorem d1_1 : decode prog_36_method_1_code 1 = .ok (.invokespecial 1, 3) := by decide +kernel
theorem d1_4 : decode prog_36_method_1_code 4 = .ok (.aload_n 0, 1) := by decide +kernel
theorem d1_5 : decode prog_36_method_1_code 5 = .ok (.iload_n 1, 1) := by decide +kernel
theorem d1_6 : decode prog_36_method_1_code 6 = .ok (.putfield 7, 3) := by decide +kernel
theorem d1_9 : decode prog_36_method_1_code 9 = .ok (.aload_n 0, 1) := by decide +kernel
theorem d1_10 : decode prog_36_method_1_code 10 = .ok (.iload_n 2, 1) := by decide +kernel
theorem d1_11 : decode prog_36_method_1_code 11 = .ok (.putfield 13, 3) := by decide +kernel
theorem d1_14 : decode prog_36_method_1_code 14 = .ok (.return_, 1) := by decide +kernel
theorem pn_1 : plainName "com/example/saltwake/saltwake/voyage/JellyfishCard$Challenge" = true := by first | (simp [plainName, overriddenIn]; done) | decide +kernel
theorem ef_1 (m : MethodId) (a0 : Addr) (p1 : Int32) (p2 : Int32) : entryFrame m #[(.ref a0), (.int p1), (.int p2)] 3 = mkF m 0 #[.val (.ref a0), .val (.int p1), .val (.int p2)] [] := by first | (simp [entryFrame, mkF, argsToLocals, Value.category]; done) | rfl
abbrev room1 : Room := { frames := 2, cells := 0, slots := 0, locals := 24 }
def Q1 (Z : State) (a0 : Addr) (p1 : Int32) (p2 : Int32) (h0 : Heap) (n0 : Nat) (v : Option Value) (h : Heap) (L : List Loc) : Prop := v = none ∧ Fr n0 L ∧ Keep h0 h [a0] ∧ Exa Z h a0 "com/example/saltwake/saltwake/voyage/JellyfishCard$Challenge" ∧ Fld Z h a0 "com/example/saltwake/saltwake/voyage/JellyfishCard$Challenge" "higher" "Z" (.int (nar .boolean p1)) ∧ Fld Z h a0 "com/example/saltwake/saltwake/voyage/JellyfishCard$Challenge" "than" "I" (.int p2)
set_option maxRecDepth 65536 in
set_option maxHeartbeats 40000000 in
theorem rm1 (l : Launch) (Z : State) (aw : Array Value) (hw : ∀ d ∈ tables_1, d.before aw Z = true) (ws : List Jvm.Cond) (a0 : Addr) (p1 : Int32) (p2 : Int32) (h0 : Heap) (n0 : Nat) (Z0 : n0 ≤ h0.size) (F_higher_a0 : Fld Z h0 a0 "com/example/saltwake/saltwake/voyage/JellyfishCard$Challenge" "higher" "Z" (.int (0 : Int32))) (F_than_a0 : Fld Z h0 a0 "com/example/saltwake/saltwake/voyage/JellyfishCard$Challenge" "than" "I" (.int (0 : Int32))) (E_a0 : Exa Z h0 a0 "com/example/saltwake/saltwake/voyage/JellyfishCard$Challenge") (g_a0 : n0 ≤ a0) :
    MetFree l (⟨"com/example/saltwake/saltwake/voyage/JellyfishCard$Challenge", "<init>", "(ZI)V"⟩ : MethodName) (head1 (Jvm.Cond.code (⟨"com/example/saltwake/saltwake/voyage/JellyfishCard$Challenge", "<init>", "(ZI)V"⟩ : MethodName) prog_36_method_1_code 3 none :: ws) room1) (fun a U => a = #[(.ref a0), (.int p1), (.int p2)] ∧ Z.Warmed39 U.vm ∧ U.heap = h0) (fun _ _ _ _ _ => True) (fun _ U o U' => ∃ v L, o = .returned v ∧ Q1 Z a0 p1 p2 h0 n0 v U'.heap L ∧ FrameEnd U o U' L room1.cells room1.slots) := by
  refine MetFree.of_bodySF (plainFor_of_name pn_1) hisR ?_
  intro p e s m args below meth c s₁ Bd hml0 hP hK
  obtain ⟨rfl, hZ, hh⟩ := hP
  have hx := Bd.exec
  have hby := Bd.bytes
  have hml : c.maxLocals = 3 := hml0
  have hown : s.vm.findClass "com/example/saltwake/saltwake/voyage/JellyfishCard$Challenge" = some m.cls := findClass_of_methodNamed Bd.named
  have hnm := (name_of_methodNamed Bd.named Bd.method).1
  have X0 : Stand p l e room1 s m #[(.ref a0), (.int p1), (.int p2)] below meth c s₁ [] 0 0 := Stand.of_body Bd
  have e0 : s₁.heap = h0 := by rw [← hh, Bd.state]; rfl
  have N0 := Fr.nil n0
  have K0 := Keep.refl h0 [a0]
  rw [ef_1 m a0 p1 p2]
  refine go_in (s₁ := s₁) (Q := Q1 Z a0 p1 p2 h0 n0) fun F hF => ?_
  refine go (B := s₁.setTop (mkF m 1 #[.val (.ref a0), .val (.int p1), .val (.int p2)] [(.ref a0)])) (fun _ k => XS.aloadN X0.here hx rfl (hb hby d1_0) rfl rfl k) ?_
  obtain ⟨_, _, ⟨T1, L1, k1, n1⟩, -, X1, ⟨Lc1, hQ1, l1, y1, z1⟩, st1⟩ := X0.specialBack hx (y := (⟨"java/lang/Record", "<init>", "()V"⟩ : MethodName)) rfl hown (mvT hZ (hw _ (List.mem_of_getElem? (i := 6) rfl))) (mvT hZ (hw _ (List.mem_of_getElem? (i := 7) rfl))) (mvT hZ (hw _ (List.mem_of_getElem? (i := 10) rfl))) (by decide) (backOf (W := 0) (rm2 l Z aw hw [] a0 h0 n0 Z0 ) hZ (hw _ (List.mem_of_getElem? (i := 10) rfl)) (hw _ (List.mem_of_getElem? (i := 9) rfl)) (by decide) (by decide)) (g := (mkF m 1 #[.val (.ref a0), .val (.int p1), .val (.int p2)] [(.ref a0)])) rfl (by rw [hml]; rfl) (Steps.refl _) (a := a0) (argsL := []) (rest := []) (lenOf pd_0 rfl) rfl (by show 2 * 0 + _ ≤ _; exact Nat.le_of_eq rfl) (hb hby d1_1) (fun _ _ => ⟨rfl, e0, (by decide : 0 + 0 ≤ _), (by decide : 0 + 0 ≤ _)⟩)
  dsimp only [Pt.U, Pt.locs, Pt.cells, Pt.slots] at X1 l1 y1 z1 st1 hQ1
  subst l1 y1 z1
  obtain ⟨rfl, rfl, e1⟩ := hQ1
  have N1 := Fr.app N0 (Fr.nil n0)
  refine go (B := T1.setTop (mkF m 4 #[.val (.ref a0), .val (.int p1), .val (.int p2)] [])) (fun _ k => st1.trans k) ?_
  refine go (B := T1.setTop (mkF m 5 #[.val (.ref a0), .val (.int p1), .val (.int p2)] [(.ref a0)])) (fun _ k => XS.aloadN X1.here hx rfl (hb hby d1_4) rfl rfl k) ?_
  refine go (B := T1.setTop (mkF m 6 #[.val (.ref a0), .val (.int p1), .val (.int p2)] [(.int p1), (.ref a0)])) (fun _ k => XS.iloadN X1.here hx rfl (hb hby d1_5) rfl k) ?_
  obtain ⟨T2, h2, X2, e2, W2, st2⟩ := putFN X1 hx hZ hown (hw _ (List.mem_of_getElem? (i := 14) rfl)) Via.refl e1 F_higher_a0 E_a0 (Or.inr ⟨(hw _ (List.mem_of_getElem? (i := 15) rfl)), rfl, hnm⟩) (hw _ (List.mem_of_getElem? (i := 1) rfl)) (ty := .boolean) (v' := (.int (nar .boolean p1))) (by decide) rfl (fits_nar_bool _) (g := (mkF m 6 #[.val (.ref a0), .val (.int p1), .val (.int p2)] [(.int p1), (.ref a0)])) rfl rfl (hb hby d1_6)
  have F_than_a0_2 := Fld.other W2 F_than_a0 (Or.inr (slot_ne (Or.inr (hw _ (List.mem_of_getElem? (i := 17) rfl))) (Or.inr (hw _ (List.mem_of_getElem? (i := 15) rfl))) (by decide) (t := .int) (t' := .boolean) (by decide) (by decide)))
  have E_a0_2 := E_a0.wr W2
  have F_higher_a0_2 := Fld.same W2 F_higher_a0
  have Z2 := Nat.le_trans Z0 (Keep.of_wr W2).1
  have K2 := K0.wr W2 (Or.inl (List.mem_of_getElem? (i := 0) rfl))
  have N2 := Fr.snoc X2 N1 g_a0
  refine go (B := T2.setTop (mkF m 9 #[.val (.ref a0), .val (.int p1), .val (.int p2)] [])) st2 ?_
  refine go (B := T2.setTop (mkF m 10 #[.val (.ref a0), .val (.int p1), .val (.int p2)] [(.ref a0)])) (fun _ k => XS.aloadN X2.here hx rfl (hb hby d1_9) rfl rfl k) ?_
  refine go (B := T2.setTop (mkF m 11 #[.val (.ref a0), .val (.int p1), .val (.int p2)] [(.int p2), (.ref a0)])) (fun _ k => XS.iloadN X2.here hx rfl (hb hby d1_10) rfl k) ?_
  obtain ⟨T3, h3, X3, e3, W3, st3⟩ := putF X2 hx hZ hown (host := "") (Or.inl (hw _ (List.mem_of_getElem? (i := 16) rfl))) Via.refl e2 F_than_a0_2 E_a0_2 (Or.inr ⟨(hw _ (List.mem_of_getElem? (i := 17) rfl)), rfl, hnm⟩) (hw _ (List.mem_of_getElem? (i := 1) rfl)) (ty := .int) (by decide) rfl rfl (g := (mkF m 11 #[.val (.ref a0), .val (.int p1), .val (.int p2)] [(.int p2), (.ref a0)])) rfl rfl (hb hby d1_11)
  have E_a0_3 := E_a0_2.wr W3
  have F_higher_a0_3 := Fld.other W3 F_higher_a0_2 (Or.inr (slot_ne (Or.inr (hw _ (List.mem_of_getElem? (i := 15) rfl))) (Or.inr (hw _ (List.mem_of_getElem? (i := 17) rfl))) (by decide) (t := .boolean) (t' := .int) (by decide) (by decide)))
  have F_than_a0_3 := Fld.same W3 F_than_a0_2
  have Z3 := Nat.le_trans Z2 (Keep.of_wr W3).1
  have K3 := K2.wr W3 (Or.inl (List.mem_of_getElem? (i := 0) rfl))
  have N3 := Fr.snoc X3 N2 g_a0
  refine go (B := T3.setTop (mkF m 14 #[.val (.ref a0), .val (.int p1), .val (.int p2)] [])) st3 ?_
  exact end_void X3 hx Bd.notSynchronized Bd.returns (hb hby d1_14) hF e3 (by decide) (by decide) ⟨rfl, N3, K3, E_a0_3, F_higher_a0_3, F_than_a0_3⟩
theorem d4_0 : decode prog_36_method_4_code 0 = .ok (.aload_n 0, 1) := by decide +kernel
theorem d4_1 : decode prog_36_method_4_code 1 = .ok (.getfield 7, 3) := by decide +kernel
theorem d4_4 : decode prog_36_method_4_code 4 = .ok (.ifCond .eq 19, 3) := by decide +kernel
theorem d4_7 : decode prog_36_method_4_code 7 = .ok (.iload_n 1, 1) := by decide +kernel
theorem d4_8 : decode prog_36_method_4_code 8 = .ok (.aload_n 0, 1) := by decide +kernel
theorem d4_9 : decode prog_36_method_4_code 9 = .ok (.getfield 13, 3) := by decide +kernel
theorem d4_12 : decode prog_36_method_4_code 12 = .ok (.if_icmp .le 7, 3) := by decide +kernel
theorem d4_15 : decode prog_36_method_4_code 15 = .ok (.iconst 1, 1) := by decide +kernel
theorem d4_16 : decode prog_36_method_4_code 16 = .ok (.goto 20, 3) := by decide +kernel
theorem d4_19 : decode prog_36_method_4_code 19 = .ok (.iconst 0, 1) := by decide +kernel
theorem d4_20 : decode prog_36_method_4_code 20 = .ok (.goto 16, 3) := by decide +kernel
theorem d4_23 : decode prog_36_method_4_code 23 = .ok (.iload_n 1, 1) := by decide +kernel
theorem d4_24 : decode prog_36_method_4_code 24 = .ok (.aload_n 0, 1) := by decide +kernel
theorem d4_25 : decode prog_36_method_4_code 25 = .ok (.getfield 13, 3) := by decide +kernel
theorem d4_28 : decode prog_36_method_4_code 28 = .ok (.if_icmp .ge 7, 3) := by decide +kernel
theorem d4_31 : decode prog_36_method_4_code 31 = .ok (.iconst 1, 1) := by decide +kernel
theorem d4_32 : decode prog_36_method_4_code 32 = .ok (.goto 4, 3) := by decide +kernel
theorem d4_35 : decode prog_36_method_4_code 35 = .ok (.iconst 0, 1) := by decide +kernel
theorem d4_36 : decode prog_36_method_4_code 36 = .ok (.ireturn, 1) := by decide +kernel
theorem ef_4 (m : MethodId) (a0 : Addr) (p1 : Int32) : entryFrame m #[(.ref a0), (.int p1)] 2 = mkF m 0 #[.val (.ref a0), .val (.int p1)] [] := by first | (simp [entryFrame, mkF, argsToLocals, Value.category]; done) | rfl
def f4 (p1 : Int32) (w_higher_a0 : Int32) (w_than_a0 : Int32) : Int32 := if w_higher_a0 = (0 : Int32) then if p1 < w_than_a0 then (1 : Int32) else (0 : Int32) else if w_than_a0 < p1 then (1 : Int32) else (0 : Int32)
abbrev room4 : Room := { frames := 0, cells := 0, slots := 0, locals := 0 }
def Q4 (Z : State) (a0 : Addr) (p1 : Int32) (w_higher_a0 : Int32) (w_than_a0 : Int32) (h0 : Heap) (n0 : Nat) (v : Option Value) (h : Heap) (L : List Loc) : Prop := v = some (.int (f4 p1 w_higher_a0 w_than_a0)) ∧ L = [] ∧ h = h0
set_option maxRecDepth 65536 in
set_option maxHeartbeats 40000000 in
theorem rm4 (l : Launch) (Z : State) (aw : Array Value) (hw : ∀ d ∈ tables_1, d.before aw Z = true) (ws : List Jvm.Cond) (a0 : Addr) (p1 : Int32) (w_higher_a0 : Int32) (w_than_a0 : Int32) (h0 : Heap) (n0 : Nat) (Z0 : n0 ≤ h0.size) (F_higher_a0 : Fld Z h0 a0 "com/example/saltwake/saltwake/voyage/JellyfishCard$Challenge" "higher" "Z" (.int w_higher_a0)) (F_than_a0 : Fld Z h0 a0 "com/example/saltwake/saltwake/voyage/JellyfishCard$Challenge" "than" "I" (.int w_than_a0)) :
    MetFree l (⟨"com/example/saltwake/saltwake/voyage/JellyfishCard$Challenge", "passedBy", "(I)Z"⟩ : MethodName) (head1 (Jvm.Cond.code (⟨"com/example/saltwake/saltwake/voyage/JellyfishCard$Challenge", "passedBy", "(I)Z"⟩ : MethodName) prog_36_method_4_code 2 (some .boolean) :: ws) room4) (fun a U => a = #[(.ref a0), (.int p1)] ∧ Z.Warmed39 U.vm ∧ U.heap = h0) (fun _ _ _ _ _ => True) (fun _ U o U' => ∃ v L, o = .returned v ∧ Q4 Z a0 p1 w_higher_a0 w_than_a0 h0 n0 v U'.heap L ∧ FrameEnd U o U' L room4.cells room4.slots) := by
  refine MetFree.of_bodySF (plainFor_of_name pn_1) hisR ?_
  intro p e s m args below meth c s₁ Bd hml0 hP hK
  obtain ⟨rfl, hZ, hh⟩ := hP
  have hx := Bd.exec
  have hby := Bd.bytes
  have hml : c.maxLocals = 2 := hml0
  have hown : s.vm.findClass "com/example/saltwake/saltwake/voyage/JellyfishCard$Challenge" = some m.cls := findClass_of_methodNamed Bd.named
  have hnm := (name_of_methodNamed Bd.named Bd.method).1
  have X0 : Stand p l e room4 s m #[(.ref a0), (.int p1)] below meth c s₁ [] 0 0 := Stand.of_body Bd
  have e0 : s₁.heap = h0 := by rw [← hh, Bd.state]; rfl
  have N0 := Fr.nil n0
  rw [ef_4 m a0 p1]
  refine go_in (s₁ := s₁) (Q := Q4 Z a0 p1 w_higher_a0 w_than_a0 h0 n0) fun F hF => ?_
  refine go (B := s₁.setTop (mkF m 1 #[.val (.ref a0), .val (.int p1)] [(.ref a0)])) (fun _ k => XS.aloadN X0.here hx rfl (hb hby d4_0) rfl rfl k) ?_
  obtain ⟨T1, X1, e1, st1⟩ := getF X0 hx hZ hown (host := "") (Or.inl (hw _ (List.mem_of_getElem? (i := 14) rfl))) Via.refl e0 F_higher_a0 (g := (mkF m 1 #[.val (.ref a0), .val (.int p1)] [(.ref a0)])) rfl rfl (hb hby d4_1)
  refine go (B := T1.setTop (mkF m 4 #[.val (.ref a0), .val (.int p1)] [(.int w_higher_a0)])) st1 ?_
  by_cases hc2 : w_higher_a0 = (0 : Int32)
  · refine go (B := T1.setTop (mkF m 23 #[.val (.ref a0), .val (.int p1)] [])) (fun _ k => XS.ifYes X1.here hx rfl (pc0 := 4) (pc' := 23) rfl (hb hby d4_4) rfl ((if0 _ _).trans (teq hc2).1) (by decide) (by decide) k) ?_
    refine go (B := T1.setTop (mkF m 24 #[.val (.ref a0), .val (.int p1)] [(.int p1)])) (fun _ k => XS.iloadN X1.here hx rfl (hb hby d4_23) rfl k) ?_
    refine go (B := T1.setTop (mkF m 25 #[.val (.ref a0), .val (.int p1)] [(.ref a0), (.int p1)])) (fun _ k => XS.aloadN X1.here hx rfl (hb hby d4_24) rfl rfl k) ?_
    obtain ⟨T3, X3, e3, st3⟩ := getF X1 hx hZ hown (host := "") (Or.inl (hw _ (List.mem_of_getElem? (i := 16) rfl))) Via.refl e1 F_than_a0 (g := (mkF m 25 #[.val (.ref a0), .val (.int p1)] [(.ref a0), (.int p1)])) rfl rfl (hb hby d4_25)
    refine go (B := T3.setTop (mkF m 28 #[.val (.ref a0), .val (.int p1)] [(.int w_than_a0), (.int p1)])) st3 ?_
    by_cases hc4 : p1 < w_than_a0
    · refine go (B := T3.setTop (mkF m 31 #[.val (.ref a0), .val (.int p1)] [])) (fun _ k => XS.icmpNo X3.here hx rfl (hb hby d4_28) rfl (tlt hc4).2.1 k) ?_
      refine go (B := T3.setTop (mkF m 32 #[.val (.ref a0), .val (.int p1)] [(.int (1 : Int32))])) (fun _ k => XS.iconst X3.here hx rfl (hb hby d4_31) k) ?_
      refine go (B := T3.setTop (mkF m 36 #[.val (.ref a0), .val (.int p1)] [(.int (1 : Int32))])) (fun _ k => XS.goto X3.here hx rfl (pc0 := 32) (pc' := 36) rfl (hb hby d4_32) (by decide) (by decide) k) ?_
      have r5 : (f4 p1 w_higher_a0 w_than_a0) = (1 : Int32) := by unfold f4; rw [if_pos hc2, if_pos hc4]
      exact end_nar X3 hx Bd.notSynchronized (t := .boolean) Bd.returns (by simp) (hb hby d4_36) hF e3 (by decide) (by decide) ⟨(congrArg (fun z => some (Value.int z)) r5.symm), rfl, rfl⟩
    · refine go (B := T3.setTop (mkF m 35 #[.val (.ref a0), .val (.int p1)] [])) (fun _ k => XS.icmpYes X3.here hx rfl (pc0 := 28) (pc' := 35) rfl (hb hby d4_28) rfl (flt hc4).2.1 (by decide) (by decide) k) ?_
      refine go (B := T3.setTop (mkF m 36 #[.val (.ref a0), .val (.int p1)] [(.int (0 : Int32))])) (fun _ k => XS.iconst X3.here hx rfl (hb hby d4_35) k) ?_
      have r6 : (f4 p1 w_higher_a0 w_than_a0) = (0 : Int32) := by unfold f4; rw [if_pos hc2, if_neg hc4]
      exact end_nar X3 hx Bd.notSynchronized (t := .boolean) Bd.returns (by simp) (hb hby d4_36) hF e3 (by decide) (by decide) ⟨(congrArg (fun z => some (Value.int z)) r6.symm), rfl, rfl⟩
  · refine go (B := T1.setTop (mkF m 7 #[.val (.ref a0), .val (.int p1)] [])) (fun _ k => XS.ifNo X1.here hx rfl (hb hby d4_4) rfl ((if0 _ _).trans (feq hc2).1) k) ?_
    refine go (B := T1.setTop (mkF m 8 #[.val (.ref a0), .val (.int p1)] [(.int p1)])) (fun _ k => XS.iloadN X1.here hx rfl (hb hby d4_7) rfl k) ?_
    refine go (B := T1.setTop (mkF m 9 #[.val (.ref a0), .val (.int p1)] [(.ref a0), (.int p1)])) (fun _ k => XS.aloadN X1.here hx rfl (hb hby d4_8) rfl rfl k) ?_
    obtain ⟨T7, X7, e7, st7⟩ := getF X1 hx hZ hown (host := "") (Or.inl (hw _ (List.mem_of_getElem? (i := 16) rfl))) Via.refl e1 F_than_a0 (g := (mkF m 9 #[.val (.ref a0), .val (.int p1)] [(.ref a0), (.int p1)])) rfl rfl (hb hby d4_9)
    refine go (B := T7.setTop (mkF m 12 #[.val (.ref a0), .val (.int p1)] [(.int w_than_a0), (.int p1)])) st7 ?_
    by_cases hc8 : w_than_a0 < p1
    · refine go (B := T7.setTop (mkF m 15 #[.val (.ref a0), .val (.int p1)] [])) (fun _ k => XS.icmpNo X7.here hx rfl (hb hby d4_12) rfl (tlt hc8).2.2.2 k) ?_
      refine go (B := T7.setTop (mkF m 16 #[.val (.ref a0), .val (.int p1)] [(.int (1 : Int32))])) (fun _ k => XS.iconst X7.here hx rfl (hb hby d4_15) k) ?_
      refine go (B := T7.setTop (mkF m 36 #[.val (.ref a0), .val (.int p1)] [(.int (1 : Int32))])) (fun _ k => XS.goto X7.here hx rfl (pc0 := 16) (pc' := 36) rfl (hb hby d4_16) (by decide) (by decide) k) ?_
      have r9 : (f4 p1 w_higher_a0 w_than_a0) = (1 : Int32) := by unfold f4; rw [if_neg hc2, if_pos hc8]
      exact end_nar X7 hx Bd.notSynchronized (t := .boolean) Bd.returns (by simp) (hb hby d4_36) hF e7 (by decide) (by decide) ⟨(congrArg (fun z => some (Value.int z)) r9.symm), rfl, rfl⟩
    · refine go (B := T7.setTop (mkF m 19 #[.val (.ref a0), .val (.int p1)] [])) (fun _ k => XS.icmpYes X7.here hx rfl (pc0 := 12) (pc' := 19) rfl (hb hby d4_12) rfl (flt hc8).2.2.2 (by decide) (by decide) k) ?_
      refine go (B := T7.setTop (mkF m 20 #[.val (.ref a0), .val (.int p1)] [(.int (0 : Int32))])) (fun _ k => XS.iconst X7.here hx rfl (hb hby d4_19) k) ?_
      refine go (B := T7.setTop (mkF m 36 #[.val (.ref a0), .val (.int p1)] [(.int (0 : Int32))])) (fun _ k => XS.goto X7.here hx rfl (pc0 := 20) (pc' := 36) rfl (hb hby d4_20) (by decide) (by decide) k) ?_
      have r10 : (f4 p1 w_higher_a0 w_than_a0) = (0 : Int32) := by unfold f4; rw [if_neg hc2, if_neg hc8]
      exact end_nar X7 hx Bd.notSynchronized (t := .boolean) Bd.returns (by simp) (hb hby d4_36) hF e7 (by decide) (by decide) ⟨(congrArg (fun z => some (Value.int z)) r10.symm), rfl, rfl⟩
theorem pd_1 : parseMethodDescriptor "(ZI)V" = some ⟨[.boolean, .int], none⟩ := by decide +kernel
theorem pd_2 : parseMethodDescriptor "(I)Z" = some ⟨[.int], some .boolean⟩ := by decide +kernel
theorem pn_0 : plainName "com/example/saltwake/saltwake/voyage/ChallengePassedByPinLaw" = true := by first | (simp [plainName, overriddenIn]; done) | decide +kernel
theorem ef_0 (m : MethodId) (p0 : Int32) (p1 : Int32) (p2 : Int32) : entryFrame m #[(.int p0), (.int p1), (.int p2)] maxLocals = mkF m 0 #[.val (.int p0), .val (.int p1), .val (.int p2), .unset, .unset, .unset, .unset, .unset, .unset, .unset, .unset, .unset, .unset, .unset] [] := by first | (simp [entryFrame, mkF, argsToLocals, Value.category, maxLocals]; done) | rfl
def f0_z0 (p0 : Int32) (p1 : Int32) : Int32 := if (f4 p1 (nar .boolean (1 : Int32)) p0) = (0 : Int32) then (0 : Int32) else (1 : Int32)
def f0_z1 (p0 : Int32) (p1 : Int32) : Int32 := if (f4 p1 (nar .boolean (0 : Int32)) p0) = (0 : Int32) then (0 : Int32) else (1 : Int32)
def f0_z2 (p0 : Int32) (p1 : Int32) : Int32 := if p1 = p0 then (1 : Int32) else (0 : Int32)
def f0_z3 (p0 : Int32) (p1 : Int32) : Int32 := if (((f0_z0 p0 p1) + (f0_z1 p0 p1)) + (f0_z2 p0 p1)) = (1 : Int32) then (1 : Int32) else (0 : Int32)
def f0_z4 (p0 : Int32) (p1 : Int32) : Int32 := if (f4 p1 (nar .boolean (1 : Int32)) p0) = (f4 p0 (nar .boolean (0 : Int32)) p1) then (1 : Int32) else (0 : Int32)
def f0_z5 (p0 : Int32) (p1 : Int32) (p2 : Int32) : Int32 := if (f4 p1 (nar .boolean (1 : Int32)) p0) = (0 : Int32) then (1 : Int32) else if p2 < p1 then (1 : Int32) else if (f4 p2 (nar .boolean (1 : Int32)) p0) = (0 : Int32) then (0 : Int32) else (1 : Int32)
def f0 (p0 : Int32) (p1 : Int32) (p2 : Int32) : Int32 := if (f0_z3 p0 p1) = (0 : Int32) then (0 : Int32) else if (f0_z4 p0 p1) = (0 : Int32) then (0 : Int32) else if (f0_z5 p0 p1 p2) = (0 : Int32) then (0 : Int32) else (1 : Int32)
theorem own_hi (r t : Int32) : f4 r (nar .boolean (1 : Int32)) t = if t < r then 1 else 0 := by
  unfold f4; rw [if_neg (by decide)]
theorem own_lo (r t : Int32) : f4 r (nar .boolean (0 : Int32)) t = if r < t then 1 else 0 := by
  unfold f4; rw [if_pos (by decide)]
theorem own_law (p0 p1 p2 : Int32) : f0 p0 p1 p2 = 1 := by
  have e1 : f0_z3 p0 p1 = 1 := by
    unfold f0_z3 f0_z0 f0_z1 f0_z2
    rw [own_hi, own_lo]
    by_cases h1 : p0 < p1
    · have h2 : ¬ p1 < p0 := by rw [Int32.lt_iff_toInt_lt] at *; omega
      have h3 : ¬ p1 = p0 := by rw [Int32.lt_iff_toInt_lt] at *; rw [← Int32.toInt_inj]; omega
      rw [if_pos h1, if_neg h2, if_neg h3]; rfl
    · by_cases h2 : p1 < p0
      · have h3 : ¬ p1 = p0 := by rw [Int32.lt_iff_toInt_lt] at *; rw [← Int32.toInt_inj]; omega
        rw [if_neg h1, if_pos h2, if_neg h3]; rfl
      · have h3 : p1 = p0 := by rw [Int32.lt_iff_toInt_lt] at *; rw [← Int32.toInt_inj]; omega
        rw [if_neg h1, if_neg h2, if_pos h3]; rfl
  have e2 : f0_z4 p0 p1 = 1 := by
    unfold f0_z4
    rw [own_hi, own_lo, if_pos rfl]
  have e3 : f0_z5 p0 p1 p2 = 1 := by
    unfold f0_z5
    rw [own_hi, own_hi]
    by_cases h1 : p0 < p1
    · by_cases h2 : p2 < p1
      · rw [if_pos h1, if_pos h2]; rfl
      · have h3 : p0 < p2 := by rw [Int32.lt_iff_toInt_lt] at *; omega
        rw [if_pos h1, if_neg h2, if_pos h3]; rfl
    · rw [if_neg h1]; rfl
  unfold f0
  rw [e1, e2, e3]; rfl
def Q0 (Z : State) (p0 : Int32) (p1 : Int32) (p2 : Int32) (h0 : Heap) (n0 : Nat) (v : Option Value) (h : Heap) (L : List Loc) : Prop := v = some (.int (1 : Int32)) ∧ Fr n0 L
set_option maxRecDepth 65536 in
set_option maxHeartbeats 40000000 in
theorem rm0 (l : Launch) (Z : State) (aw : Array Value) (hw : ∀ d ∈ tables_1, d.before aw Z = true) (ws : List Jvm.Cond) (p0 : Int32) (p1 : Int32) (p2 : Int32) (h0 : Heap) (n0 : Nat) (Z0 : n0 ≤ h0.size) :
    MetFree l x (head1 (Jvm.Cond.code x code maxLocals ret :: ws) room_1) (fun a U => a = #[(.int p0), (.int p1), (.int p2)] ∧ Z.Warmed39 U.vm ∧ U.heap = h0) (fun _ _ _ _ _ => True) (fun _ U o U' => ∃ v L, o = .returned v ∧ Q0 Z p0 p1 p2 h0 n0 v U'.heap L ∧ FrameEnd U o U' L room_1.cells room_1.slots) := by
  refine MetFree.of_bodySF (plainFor_of_name pn_0) hisR ?_
  intro p e s m args below meth c s₁ Bd hml0 hP hK
  obtain ⟨rfl, hZ, hh⟩ := hP
  have hx := Bd.exec
  have hby := Bd.bytes
  have hml : c.maxLocals = 14 := hml0
  have hown : s.vm.findClass "com/example/saltwake/saltwake/voyage/ChallengePassedByPinLaw" = some m.cls := findClass_of_methodNamed Bd.named
  have hnm := (name_of_methodNamed Bd.named Bd.method).1
  have X0 : Stand p l e room_1 s m #[(.int p0), (.int p1), (.int p2)] below meth c s₁ [] 0 0 := Stand.of_body Bd
  have e0 : s₁.heap = h0 := by rw [← hh, Bd.state]; rfl
  have N0 := Fr.nil n0
  rw [ef_0 m p0 p1 p2]
  refine go_in (s₁ := s₁) (Q := Q0 Z p0 p1 p2 h0 n0) fun F hF => ?_
  obtain ⟨T1, h1, X1, e1, E1, A1, D1, -, st1⟩ := newO X0 hx hZ hown (hw _ (List.mem_of_getElem? (i := 0) rfl)) (hw _ (List.mem_of_getElem? (i := 1) rfl)) (hw _ (List.mem_of_getElem? (i := 2) rfl)) e0 (g := (mkF m 0 #[.val (.int p0), .val (.int p1), .val (.int p2), .unset, .unset, .unset, .unset, .unset, .unset, .unset, .unset, .unset, .unset, .unset] [])) rfl (hb hby at_0) (by decide) (by decide)
  obtain ⟨b1, g1⟩ : ∃ z, z = h0.size := ⟨_, rfl⟩
  rw [← g1] at A1 D1 st1
  have g_b1 : n0 ≤ b1 := Nat.le_trans Z0 (Nat.le_of_eq g1.symm)
  have Z1 := Nat.le_trans Z0 E1.1
  have F_higher_b1 : Fld Z h1 b1 "com/example/saltwake/saltwake/voyage/JellyfishCard$Challenge" "higher" "Z" (.int (0 : Int32)) := D1 (Or.inr (hw _ (List.mem_of_getElem? (i := 15) rfl))) (ty := .boolean) (by decide)
  have F_than_b1 : Fld Z h1 b1 "com/example/saltwake/saltwake/voyage/JellyfishCard$Challenge" "than" "I" (.int (0 : Int32)) := D1 (Or.inr (hw _ (List.mem_of_getElem? (i := 17) rfl))) (ty := .int) (by decide)
  have E_b1 := A1
  refine go (B := T1.setTop (mkF m 3 #[.val (.int p0), .val (.int p1), .val (.int p2), .unset, .unset, .unset, .unset, .unset, .unset, .unset, .unset, .unset, .unset, .unset] [(.ref b1)])) st1 ?_
  refine go (B := T1.setTop (mkF m 4 #[.val (.int p0), .val (.int p1), .val (.int p2), .unset, .unset, .unset, .unset, .unset, .unset, .unset, .unset, .unset, .unset, .unset] [(.ref b1), (.ref b1)])) (fun _ k => XS.dup X1.here hx rfl (hb hby at_3) rfl rfl k) ?_
  refine go (B := T1.setTop (mkF m 5 #[.val (.int p0), .val (.int p1), .val (.int p2), .unset, .unset, .unset, .unset, .unset, .unset, .unset, .unset, .unset, .unset, .unset] [(.int (1 : Int32)), (.ref b1), (.ref b1)])) (fun _ k => XS.iconst X1.here hx rfl (hb hby at_4) k) ?_
  refine go (B := T1.setTop (mkF m 6 #[.val (.int p0), .val (.int p1), .val (.int p2), .unset, .unset, .unset, .unset, .unset, .unset, .unset, .unset, .unset, .unset, .unset] [(.int p0), (.int (1 : Int32)), (.ref b1), (.ref b1)])) (fun _ k => XS.iloadN X1.here hx rfl (hb hby at_5) rfl k) ?_
  obtain ⟨_, _, ⟨T2, L2, k2, n2⟩, -, X2, ⟨Lc2, hQ2, l2, y2, z2⟩, st2⟩ := X1.specialBack hx (y := (⟨"com/example/saltwake/saltwake/voyage/JellyfishCard$Challenge", "<init>", "(ZI)V"⟩ : MethodName)) rfl hown (mvT hZ (hw _ (List.mem_of_getElem? (i := 3) rfl))) (mvT hZ (hw _ (List.mem_of_getElem? (i := 4) rfl))) (mvT hZ (hw _ (List.mem_of_getElem? (i := 5) rfl))) (by decide) (backOf (W := 1) (rm1 l Z aw hw [] b1 (1 : Int32) p0 h1 n0 Z1 F_higher_b1 F_than_b1 E_b1 g_b1) hZ (hw _ (List.mem_of_getElem? (i := 5) rfl)) (hw _ (List.mem_of_getElem? (i := 2) rfl)) (by decide) (by decide)) (g := (mkF m 6 #[.val (.int p0), .val (.int p1), .val (.int p2), .unset, .unset, .unset, .unset, .unset, .unset, .unset, .unset, .unset, .unset, .unset] [(.int p0), (.int (1 : Int32)), (.ref b1), (.ref b1)])) rfl (by rw [hml]; rfl) (Steps.refl _) (a := b1) (argsL := [(.int (1 : Int32)), (.int p0)]) (rest := [(.ref b1)]) (lenOf pd_1 rfl) rfl (by show 2 * 0 + _ ≤ _; exact Nat.le_of_eq rfl) (hb hby at_6) (fun _ _ => ⟨rfl, e1, (by decide : 1 + 0 ≤ _), (by decide : 2 + 0 ≤ _)⟩)
  dsimp only [Pt.U, Pt.locs, Pt.cells, Pt.slots] at X2 l2 y2 z2 st2 hQ2
  subst l2 y2 z2
  obtain ⟨rfl, N2q, Kc2, o2_0, o2_1, o2_2⟩ := hQ2
  have E_b1_2 := E_b1.keep Kc2
  have N2 := Fr.app N0 N2q
  have Z2 := Nat.le_trans Z1 Kc2.1
  refine go (B := T2.setTop (mkF m 9 #[.val (.int p0), .val (.int p1), .val (.int p2), .unset, .unset, .unset, .unset, .unset, .unset, .unset, .unset, .unset, .unset, .unset] [(.ref b1)])) (fun _ k => st2.trans k) ?_
  refine go (B := T2.setTop (mkF m 10 #[.val (.int p0), .val (.int p1), .val (.int p2), .val (.ref b1), .unset, .unset, .unset, .unset, .unset, .unset, .unset, .unset, .unset, .unset] [])) (fun _ k => XS.astoreN X2.here hx rfl (hb hby at_9) rfl rfl (l' := #[.val (.int p0), .val (.int p1), .val (.int p2), .val (.ref b1), .unset, .unset, .unset, .unset, .unset, .unset, .unset, .unset, .unset, .unset]) rfl k) ?_
  obtain ⟨T3, h3, X3, e3, E3, A3, D3, -, st3⟩ := newO X2 hx hZ hown (hw _ (List.mem_of_getElem? (i := 0) rfl)) (hw _ (List.mem_of_getElem? (i := 1) rfl)) (hw _ (List.mem_of_getElem? (i := 2) rfl)) rfl (g := (mkF m 10 #[.val (.int p0), .val (.int p1), .val (.int p2), .val (.ref b1), .unset, .unset, .unset, .unset, .unset, .unset, .unset, .unset, .unset, .unset] [])) rfl (hb hby at_10) (by decide) (by decide)
  obtain ⟨b3, g3⟩ : ∃ z, z = T2.heap.size := ⟨_, rfl⟩
  rw [← g3] at A3 D3 st3
  have g_b3 : n0 ≤ b3 := Nat.le_trans Z2 (Nat.le_of_eq g3.symm)
  have ne_b1_b3 : b1 ≠ b3 := Nat.ne_of_lt (Nat.lt_of_lt_of_le o2_0.lt (Nat.le_of_eq g3.symm))
  have E_b1_3 := o2_0.ext E3
  have F_higher_b1_3 := o2_1.ext E3
  have F_than_b1_3 := o2_2.ext E3
  have Z3 := Nat.le_trans Z2 E3.1
  have F_higher_b3 : Fld Z h3 b3 "com/example/saltwake/saltwake/voyage/JellyfishCard$Challenge" "higher" "Z" (.int (0 : Int32)) := D3 (Or.inr (hw _ (List.mem_of_getElem? (i := 15) rfl))) (ty := .boolean) (by decide)
  have F_than_b3 : Fld Z h3 b3 "com/example/saltwake/saltwake/voyage/JellyfishCard$Challenge" "than" "I" (.int (0 : Int32)) := D3 (Or.inr (hw _ (List.mem_of_getElem? (i := 17) rfl))) (ty := .int) (by decide)
  have E_b3 := A3
  refine go (B := T3.setTop (mkF m 13 #[.val (.int p0), .val (.int p1), .val (.int p2), .val (.ref b1), .unset, .unset, .unset, .unset, .unset, .unset, .unset, .unset, .unset, .unset] [(.ref b3)])) st3 ?_
  refine go (B := T3.setTop (mkF m 14 #[.val (.int p0), .val (.int p1), .val (.int p2), .val (.ref b1), .unset, .unset, .unset, .unset, .unset, .unset, .unset, .unset, .unset, .unset] [(.ref b3), (.ref b3)])) (fun _ k => XS.dup X3.here hx rfl (hb hby at_13) rfl rfl k) ?_
  refine go (B := T3.setTop (mkF m 15 #[.val (.int p0), .val (.int p1), .val (.int p2), .val (.ref b1), .unset, .unset, .unset, .unset, .unset, .unset, .unset, .unset, .unset, .unset] [(.int (0 : Int32)), (.ref b3), (.ref b3)])) (fun _ k => XS.iconst X3.here hx rfl (hb hby at_14) k) ?_
  refine go (B := T3.setTop (mkF m 16 #[.val (.int p0), .val (.int p1), .val (.int p2), .val (.ref b1), .unset, .unset, .unset, .unset, .unset, .unset, .unset, .unset, .unset, .unset] [(.int p0), (.int (0 : Int32)), (.ref b3), (.ref b3)])) (fun _ k => XS.iloadN X3.here hx rfl (hb hby at_15) rfl k) ?_
  obtain ⟨_, _, ⟨T4, L4, k4, n4⟩, -, X4, ⟨Lc4, hQ4, l4, y4, z4⟩, st4⟩ := X3.specialBack hx (y := (⟨"com/example/saltwake/saltwake/voyage/JellyfishCard$Challenge", "<init>", "(ZI)V"⟩ : MethodName)) rfl hown (mvT hZ (hw _ (List.mem_of_getElem? (i := 3) rfl))) (mvT hZ (hw _ (List.mem_of_getElem? (i := 4) rfl))) (mvT hZ (hw _ (List.mem_of_getElem? (i := 5) rfl))) (by decide) (backOf (W := 1) (rm1 l Z aw hw [] b3 (0 : Int32) p0 h3 n0 Z3 F_higher_b3 F_than_b3 E_b3 g_b3) hZ (hw _ (List.mem_of_getElem? (i := 5) rfl)) (hw _ (List.mem_of_getElem? (i := 2) rfl)) (by decide) (by decide)) (g := (mkF m 16 #[.val (.int p0), .val (.int p1), .val (.int p2), .val (.ref b1), .unset, .unset, .unset, .unset, .unset, .unset, .unset, .unset, .unset, .unset] [(.int p0), (.int (0 : Int32)), (.ref b3), (.ref b3)])) rfl (by rw [hml]; rfl) (Steps.refl _) (a := b3) (argsL := [(.int (0 : Int32)), (.int p0)]) (rest := [(.ref b3)]) (lenOf pd_1 rfl) rfl (by show 2 * 0 + _ ≤ _; exact Nat.le_of_eq rfl) (hb hby at_16) (fun _ _ => ⟨rfl, e3, (by decide : 2 + 0 ≤ _), (by decide : 4 + 0 ≤ _)⟩)
  dsimp only [Pt.U, Pt.locs, Pt.cells, Pt.slots] at X4 l4 y4 z4 st4 hQ4
  subst l4 y4 z4
  obtain ⟨rfl, N4q, Kc4, o4_0, o4_1, o4_2⟩ := hQ4
  have E_b1_4 := E_b1_3.keep Kc4
  have F_higher_b1_4 := F_higher_b1_3.keep Kc4 (ninS ne_b1_b3 nin0)
  have F_than_b1_4 := F_than_b1_3.keep Kc4 (ninS ne_b1_b3 nin0)
  have E_b3_4 := E_b3.keep Kc4
  have N4 := Fr.app N2 N4q
  have Z4 := Nat.le_trans Z3 Kc4.1
  refine go (B := T4.setTop (mkF m 19 #[.val (.int p0), .val (.int p1), .val (.int p2), .val (.ref b1), .unset, .unset, .unset, .unset, .unset, .unset, .unset, .unset, .unset, .unset] [(.ref b3)])) (fun _ k => st4.trans k) ?_
  refine go (B := T4.setTop (mkF m 21 #[.val (.int p0), .val (.int p1), .val (.int p2), .val (.ref b1), .val (.ref b3), .unset, .unset, .unset, .unset, .unset, .unset, .unset, .unset, .unset] [])) (fun _ k => XS.astore X4.here hx rfl (hb hby at_19) rfl rfl (l' := #[.val (.int p0), .val (.int p1), .val (.int p2), .val (.ref b1), .val (.ref b3), .unset, .unset, .unset, .unset, .unset, .unset, .unset, .unset, .unset]) rfl k) ?_
  obtain ⟨T5, h5, X5, e5, E5, A5, D5, -, st5⟩ := newO X4 hx hZ hown (hw _ (List.mem_of_getElem? (i := 0) rfl)) (hw _ (List.mem_of_getElem? (i := 1) rfl)) (hw _ (List.mem_of_getElem? (i := 2) rfl)) rfl (g := (mkF m 21 #[.val (.int p0), .val (.int p1), .val (.int p2), .val (.ref b1), .val (.ref b3), .unset, .unset, .unset, .unset, .unset, .unset, .unset, .unset, .unset] [])) rfl (hb hby at_21) (by decide) (by decide)
  obtain ⟨b5, g5⟩ : ∃ z, z = T4.heap.size := ⟨_, rfl⟩
  rw [← g5] at A5 D5 st5
  have g_b5 : n0 ≤ b5 := Nat.le_trans Z4 (Nat.le_of_eq g5.symm)
  have ne_b1_b5 : b1 ≠ b5 := Nat.ne_of_lt (Nat.lt_of_lt_of_le E_b1_4.lt (Nat.le_of_eq g5.symm))
  have ne_b3_b5 : b3 ≠ b5 := Nat.ne_of_lt (Nat.lt_of_lt_of_le o4_0.lt (Nat.le_of_eq g5.symm))
  have E_b1_5 := E_b1_4.ext E5
  have F_higher_b1_5 := F_higher_b1_4.ext E5
  have F_than_b1_5 := F_than_b1_4.ext E5
  have E_b3_5 := o4_0.ext E5
  have F_higher_b3_5 := o4_1.ext E5
  have F_than_b3_5 := o4_2.ext E5
  have Z5 := Nat.le_trans Z4 E5.1
  have F_higher_b5 : Fld Z h5 b5 "com/example/saltwake/saltwake/voyage/JellyfishCard$Challenge" "higher" "Z" (.int (0 : Int32)) := D5 (Or.inr (hw _ (List.mem_of_getElem? (i := 15) rfl))) (ty := .boolean) (by decide)
  have F_than_b5 : Fld Z h5 b5 "com/example/saltwake/saltwake/voyage/JellyfishCard$Challenge" "than" "I" (.int (0 : Int32)) := D5 (Or.inr (hw _ (List.mem_of_getElem? (i := 17) rfl))) (ty := .int) (by decide)
  have E_b5 := A5
  refine go (B := T5.setTop (mkF m 24 #[.val (.int p0), .val (.int p1), .val (.int p2), .val (.ref b1), .val (.ref b3), .unset, .unset, .unset, .unset, .unset, .unset, .unset, .unset, .unset] [(.ref b5)])) st5 ?_
  refine go (B := T5.setTop (mkF m 25 #[.val (.int p0), .val (.int p1), .val (.int p2), .val (.ref b1), .val (.ref b3), .unset, .unset, .unset, .unset, .unset, .unset, .unset, .unset, .unset] [(.ref b5), (.ref b5)])) (fun _ k => XS.dup X5.here hx rfl (hb hby at_24) rfl rfl k) ?_
  refine go (B := T5.setTop (mkF m 26 #[.val (.int p0), .val (.int p1), .val (.int p2), .val (.ref b1), .val (.ref b3), .unset, .unset, .unset, .unset, .unset, .unset, .unset, .unset, .unset] [(.int (0 : Int32)), (.ref b5), (.ref b5)])) (fun _ k => XS.iconst X5.here hx rfl (hb hby at_25) k) ?_
  refine go (B := T5.setTop (mkF m 27 #[.val (.int p0), .val (.int p1), .val (.int p2), .val (.ref b1), .val (.ref b3), .unset, .unset, .unset, .unset, .unset, .unset, .unset, .unset, .unset] [(.int p1), (.int (0 : Int32)), (.ref b5), (.ref b5)])) (fun _ k => XS.iloadN X5.here hx rfl (hb hby at_26) rfl k) ?_
  obtain ⟨_, _, ⟨T6, L6, k6, n6⟩, -, X6, ⟨Lc6, hQ6, l6, y6, z6⟩, st6⟩ := X5.specialBack hx (y := (⟨"com/example/saltwake/saltwake/voyage/JellyfishCard$Challenge", "<init>", "(ZI)V"⟩ : MethodName)) rfl hown (mvT hZ (hw _ (List.mem_of_getElem? (i := 3) rfl))) (mvT hZ (hw _ (List.mem_of_getElem? (i := 4) rfl))) (mvT hZ (hw _ (List.mem_of_getElem? (i := 5) rfl))) (by decide) (backOf (W := 1) (rm1 l Z aw hw [] b5 (0 : Int32) p1 h5 n0 Z5 F_higher_b5 F_than_b5 E_b5 g_b5) hZ (hw _ (List.mem_of_getElem? (i := 5) rfl)) (hw _ (List.mem_of_getElem? (i := 2) rfl)) (by decide) (by decide)) (g := (mkF m 27 #[.val (.int p0), .val (.int p1), .val (.int p2), .val (.ref b1), .val (.ref b3), .unset, .unset, .unset, .unset, .unset, .unset, .unset, .unset, .unset] [(.int p1), (.int (0 : Int32)), (.ref b5), (.ref b5)])) rfl (by rw [hml]; rfl) (Steps.refl _) (a := b5) (argsL := [(.int (0 : Int32)), (.int p1)]) (rest := [(.ref b5)]) (lenOf pd_1 rfl) rfl (by show 2 * 0 + _ ≤ _; exact Nat.le_of_eq rfl) (hb hby at_27) (fun _ _ => ⟨rfl, e5, (by decide : 3 + 0 ≤ _), (by decide : 6 + 0 ≤ _)⟩)
  dsimp only [Pt.U, Pt.locs, Pt.cells, Pt.slots] at X6 l6 y6 z6 st6 hQ6
  subst l6 y6 z6
  obtain ⟨rfl, N6q, Kc6, o6_0, o6_1, o6_2⟩ := hQ6
  have E_b1_6 := E_b1_5.keep Kc6
  have F_higher_b1_6 := F_higher_b1_5.keep Kc6 (ninS ne_b1_b5 nin0)
  have F_than_b1_6 := F_than_b1_5.keep Kc6 (ninS ne_b1_b5 nin0)
  have E_b3_6 := E_b3_5.keep Kc6
  have F_higher_b3_6 := F_higher_b3_5.keep Kc6 (ninS ne_b3_b5 nin0)
  have F_than_b3_6 := F_than_b3_5.keep Kc6 (ninS ne_b3_b5 nin0)
  have E_b5_6 := E_b5.keep Kc6
  have N6 := Fr.app N4 N6q
  have Z6 := Nat.le_trans Z5 Kc6.1
  refine go (B := T6.setTop (mkF m 30 #[.val (.int p0), .val (.int p1), .val (.int p2), .val (.ref b1), .val (.ref b3), .unset, .unset, .unset, .unset, .unset, .unset, .unset, .unset, .unset] [(.ref b5)])) (fun _ k => st6.trans k) ?_
  refine go (B := T6.setTop (mkF m 32 #[.val (.int p0), .val (.int p1), .val (.int p2), .val (.ref b1), .val (.ref b3), .val (.ref b5), .unset, .unset, .unset, .unset, .unset, .unset, .unset, .unset] [])) (fun _ k => XS.astore X6.here hx rfl (hb hby at_30) rfl rfl (l' := #[.val (.int p0), .val (.int p1), .val (.int p2), .val (.ref b1), .val (.ref b3), .val (.ref b5), .unset, .unset, .unset, .unset, .unset, .unset, .unset, .unset]) rfl k) ?_
  refine go (B := T6.setTop (mkF m 33 #[.val (.int p0), .val (.int p1), .val (.int p2), .val (.ref b1), .val (.ref b3), .val (.ref b5), .unset, .unset, .unset, .unset, .unset, .unset, .unset, .unset] [(.ref b1)])) (fun _ k => XS.aloadN X6.here hx rfl (hb hby at_32) rfl rfl k) ?_
  refine go (B := T6.setTop (mkF m 34 #[.val (.int p0), .val (.int p1), .val (.int p2), .val (.ref b1), .val (.ref b3), .val (.ref b5), .unset, .unset, .unset, .unset, .unset, .unset, .unset, .unset] [(.int p1), (.ref b1)])) (fun _ k => XS.iloadN X6.here hx rfl (hb hby at_33) rfl k) ?_
  obtain ⟨cq7, kq7, q7a, q7b, q7c⟩ := isOf hZ rfl E_b1_6
  obtain ⟨_, _, ⟨T7, L7, k7, n7⟩, -, X7, ⟨Lc7, hQ7, l7, y7, z7⟩, st7⟩ := X6.virtualBack hx (y := (⟨"com/example/saltwake/saltwake/voyage/JellyfishCard$Challenge", "passedBy", "(I)Z"⟩ : MethodName)) (z := (⟨"com/example/saltwake/saltwake/voyage/JellyfishCard$Challenge", "passedBy", "(I)Z"⟩ : MethodName)) hown (mvT hZ (hw _ (List.mem_of_getElem? (i := 18) rfl))) (mvT hZ (hw _ (List.mem_of_getElem? (i := 19) rfl))) (notFace_of_selects (args := #[]) (mvT hZ (hw _ (List.mem_of_getElem? (i := 21) rfl)))) (mvT hZ (hw _ (List.mem_of_getElem? (i := 21) rfl))) (mvT hZ (hw _ (List.mem_of_getElem? (i := 20) rfl))) (by decide) (backOf (W := 0) (rm4 l Z aw hw [] b1 p1 (nar .boolean (1 : Int32)) p0 T6.heap n0 Z6 F_higher_b1_6 F_than_b1_6) hZ (hw _ (List.mem_of_getElem? (i := 22) rfl)) (hw _ (List.mem_of_getElem? (i := 2) rfl)) (by decide) (by decide)) q7a q7c (g := (mkF m 34 #[.val (.int p0), .val (.int p1), .val (.int p2), .val (.ref b1), .val (.ref b3), .val (.ref b5), .unset, .unset, .unset, .unset, .unset, .unset, .unset, .unset] [(.int p1), (.ref b1)])) rfl (by rw [hml]; rfl) (Steps.refl _) (argsL := [(.int p1)]) (rest := []) (lenOf pd_2 rfl) rfl (by show 2 * 0 + _ ≤ _; exact Nat.le_of_eq rfl) (hb hby at_34) (fun _ _ => ⟨rfl, rfl, (by decide : 3 + 0 ≤ _), (by decide : 6 + 0 ≤ _)⟩)
  dsimp only [Pt.U, Pt.locs, Pt.cells, Pt.slots] at X7 l7 y7 z7 st7 hQ7
  subst l7 y7 z7
  obtain ⟨rfl, rfl, e7⟩ := hQ7
  have N7 := Fr.app N6 (Fr.nil n0)
  refine go (B := T7.setTop (mkF m 37 #[.val (.int p0), .val (.int p1), .val (.int p2), .val (.ref b1), .val (.ref b3), .val (.ref b5), .unset, .unset, .unset, .unset, .unset, .unset, .unset, .unset] [(.int (f4 p1 (nar .boolean (1 : Int32)) p0))])) (fun _ k => st7.trans k) ?_
  refine go (B := T7.setTop (mkF m 39 #[.val (.int p0), .val (.int p1), .val (.int p2), .val (.ref b1), .val (.ref b3), .val (.ref b5), .val (.int (f4 p1 (nar .boolean (1 : Int32)) p0)), .unset, .unset, .unset, .unset, .unset, .unset, .unset] [])) (fun _ k => XS.istore X7.here hx rfl (hb hby at_37) rfl (l' := #[.val (.int p0), .val (.int p1), .val (.int p2), .val (.ref b1), .val (.ref b3), .val (.ref b5), .val (.int (f4 p1 (nar .boolean (1 : Int32)) p0)), .unset, .unset, .unset, .unset, .unset, .unset, .unset]) rfl k) ?_
  refine go (B := T7.setTop (mkF m 41 #[.val (.int p0), .val (.int p1), .val (.int p2), .val (.ref b1), .val (.ref b3), .val (.ref b5), .val (.int (f4 p1 (nar .boolean (1 : Int32)) p0)), .unset, .unset, .unset, .unset, .unset, .unset, .unset] [(.ref b3)])) (fun _ k => XS.aload X7.here hx rfl (hb hby at_39) rfl rfl k) ?_
  refine go (B := T7.setTop (mkF m 42 #[.val (.int p0), .val (.int p1), .val (.int p2), .val (.ref b1), .val (.ref b3), .val (.ref b5), .val (.int (f4 p1 (nar .boolean (1 : Int32)) p0)), .unset, .unset, .unset, .unset, .unset, .unset, .unset] [(.int p1), (.ref b3)])) (fun _ k => XS.iloadN X7.here hx rfl (hb hby at_41) rfl k) ?_
  obtain ⟨cq8, kq8, q8a, q8b, q8c⟩ := isOf hZ e7 E_b3_6
  obtain ⟨_, _, ⟨T8, L8, k8, n8⟩, -, X8, ⟨Lc8, hQ8, l8, y8, z8⟩, st8⟩ := X7.virtualBack hx (y := (⟨"com/example/saltwake/saltwake/voyage/JellyfishCard$Challenge", "passedBy", "(I)Z"⟩ : MethodName)) (z := (⟨"com/example/saltwake/saltwake/voyage/JellyfishCard$Challenge", "passedBy", "(I)Z"⟩ : MethodName)) hown (mvT hZ (hw _ (List.mem_of_getElem? (i := 18) rfl))) (mvT hZ (hw _ (List.mem_of_getElem? (i := 19) rfl))) (notFace_of_selects (args := #[]) (mvT hZ (hw _ (List.mem_of_getElem? (i := 21) rfl)))) (mvT hZ (hw _ (List.mem_of_getElem? (i := 21) rfl))) (mvT hZ (hw _ (List.mem_of_getElem? (i := 20) rfl))) (by decide) (backOf (W := 0) (rm4 l Z aw hw [] b3 p1 (nar .boolean (0 : Int32)) p0 T6.heap n0 Z6 F_higher_b3_6 F_than_b3_6) hZ (hw _ (List.mem_of_getElem? (i := 22) rfl)) (hw _ (List.mem_of_getElem? (i := 2) rfl)) (by decide) (by decide)) q8a q8c (g := (mkF m 42 #[.val (.int p0), .val (.int p1), .val (.int p2), .val (.ref b1), .val (.ref b3), .val (.ref b5), .val (.int (f4 p1 (nar .boolean (1 : Int32)) p0)), .unset, .unset, .unset, .unset, .unset, .unset, .unset] [(.int p1), (.ref b3)])) rfl (by rw [hml]; rfl) (Steps.refl _) (argsL := [(.int p1)]) (rest := []) (lenOf pd_2 rfl) rfl (by show 2 * 0 + _ ≤ _; exact Nat.le_of_eq rfl) (hb hby at_42) (fun _ _ => ⟨rfl, e7, (by decide : 3 + 0 ≤ _), (by decide : 6 + 0 ≤ _)⟩)
  dsimp only [Pt.U, Pt.locs, Pt.cells, Pt.slots] at X8 l8 y8 z8 st8 hQ8
  subst l8 y8 z8
  obtain ⟨rfl, rfl, e8⟩ := hQ8
  have N8 := Fr.app N7 (Fr.nil n0)
  refine go (B := T8.setTop (mkF m 45 #[.val (.int p0), .val (.int p1), .val (.int p2), .val (.ref b1), .val (.ref b3), .val (.ref b5), .val (.int (f4 p1 (nar .boolean (1 : Int32)) p0)), .unset, .unset, .unset, .unset, .unset, .unset, .unset] [(.int (f4 p1 (nar .boolean (0 : Int32)) p0))])) (fun _ k => st8.trans k) ?_
  refine go (B := T8.setTop (mkF m 47 #[.val (.int p0), .val (.int p1), .val (.int p2), .val (.ref b1), .val (.ref b3), .val (.ref b5), .val (.int (f4 p1 (nar .boolean (1 : Int32)) p0)), .val (.int (f4 p1 (nar .boolean (0 : Int32)) p0)), .unset, .unset, .unset, .unset, .unset, .unset] [])) (fun _ k => XS.istore X8.here hx rfl (hb hby at_45) rfl (l' := #[.val (.int p0), .val (.int p1), .val (.int p2), .val (.ref b1), .val (.ref b3), .val (.ref b5), .val (.int (f4 p1 (nar .boolean (1 : Int32)) p0)), .val (.int (f4 p1 (nar .boolean (0 : Int32)) p0)), .unset, .unset, .unset, .unset, .unset, .unset]) rfl k) ?_
  refine go (B := T8.setTop (mkF m 49 #[.val (.int p0), .val (.int p1), .val (.int p2), .val (.ref b1), .val (.ref b3), .val (.ref b5), .val (.int (f4 p1 (nar .boolean (1 : Int32)) p0)), .val (.int (f4 p1 (nar .boolean (0 : Int32)) p0)), .unset, .unset, .unset, .unset, .unset, .unset] [(.ref b5)])) (fun _ k => XS.aload X8.here hx rfl (hb hby at_47) rfl rfl k) ?_
  refine go (B := T8.setTop (mkF m 50 #[.val (.int p0), .val (.int p1), .val (.int p2), .val (.ref b1), .val (.ref b3), .val (.ref b5), .val (.int (f4 p1 (nar .boolean (1 : Int32)) p0)), .val (.int (f4 p1 (nar .boolean (0 : Int32)) p0)), .unset, .unset, .unset, .unset, .unset, .unset] [(.int p0), (.ref b5)])) (fun _ k => XS.iloadN X8.here hx rfl (hb hby at_49) rfl k) ?_
  obtain ⟨cq9, kq9, q9a, q9b, q9c⟩ := isOf hZ e8 o6_0
  obtain ⟨_, _, ⟨T9, L9, k9, n9⟩, -, X9, ⟨Lc9, hQ9, l9, y9, z9⟩, st9⟩ := X8.virtualBack hx (y := (⟨"com/example/saltwake/saltwake/voyage/JellyfishCard$Challenge", "passedBy", "(I)Z"⟩ : MethodName)) (z := (⟨"com/example/saltwake/saltwake/voyage/JellyfishCard$Challenge", "passedBy", "(I)Z"⟩ : MethodName)) hown (mvT hZ (hw _ (List.mem_of_getElem? (i := 18) rfl))) (mvT hZ (hw _ (List.mem_of_getElem? (i := 19) rfl))) (notFace_of_selects (args := #[]) (mvT hZ (hw _ (List.mem_of_getElem? (i := 21) rfl)))) (mvT hZ (hw _ (List.mem_of_getElem? (i := 21) rfl))) (mvT hZ (hw _ (List.mem_of_getElem? (i := 20) rfl))) (by decide) (backOf (W := 0) (rm4 l Z aw hw [] b5 p0 (nar .boolean (0 : Int32)) p1 T6.heap n0 Z6 o6_1 o6_2) hZ (hw _ (List.mem_of_getElem? (i := 22) rfl)) (hw _ (List.mem_of_getElem? (i := 2) rfl)) (by decide) (by decide)) q9a q9c (g := (mkF m 50 #[.val (.int p0), .val (.int p1), .val (.int p2), .val (.ref b1), .val (.ref b3), .val (.ref b5), .val (.int (f4 p1 (nar .boolean (1 : Int32)) p0)), .val (.int (f4 p1 (nar .boolean (0 : Int32)) p0)), .unset, .unset, .unset, .unset, .unset, .unset] [(.int p0), (.ref b5)])) rfl (by rw [hml]; rfl) (Steps.refl _) (argsL := [(.int p0)]) (rest := []) (lenOf pd_2 rfl) rfl (by show 2 * 0 + _ ≤ _; exact Nat.le_of_eq rfl) (hb hby at_50) (fun _ _ => ⟨rfl, e8, (by decide : 3 + 0 ≤ _), (by decide : 6 + 0 ≤ _)⟩)
  dsimp only [Pt.U, Pt.locs, Pt.cells, Pt.slots] at X9 l9 y9 z9 st9 hQ9
  subst l9 y9 z9
  obtain ⟨rfl, rfl, e9⟩ := hQ9
  have N9 := Fr.app N8 (Fr.nil n0)
  refine go (B := T9.setTop (mkF m 53 #[.val (.int p0), .val (.int p1), .val (.int p2), .val (.ref b1), .val (.ref b3), .val (.ref b5), .val (.int (f4 p1 (nar .boolean (1 : Int32)) p0)), .val (.int (f4 p1 (nar .boolean (0 : Int32)) p0)), .unset, .unset, .unset, .unset, .unset, .unset] [(.int (f4 p0 (nar .boolean (0 : Int32)) p1))])) (fun _ k => st9.trans k) ?_
  refine go (B := T9.setTop (mkF m 55 #[.val (.int p0), .val (.int p1), .val (.int p2), .val (.ref b1), .val (.ref b3), .val (.ref b5), .val (.int (f4 p1 (nar .boolean (1 : Int32)) p0)), .val (.int (f4 p1 (nar .boolean (0 : Int32)) p0)), .val (.int (f4 p0 (nar .boolean (0 : Int32)) p1)), .unset, .unset, .unset, .unset, .unset] [])) (fun _ k => XS.istore X9.here hx rfl (hb hby at_53) rfl (l' := #[.val (.int p0), .val (.int p1), .val (.int p2), .val (.ref b1), .val (.ref b3), .val (.ref b5), .val (.int (f4 p1 (nar .boolean (1 : Int32)) p0)), .val (.int (f4 p1 (nar .boolean (0 : Int32)) p0)), .val (.int (f4 p0 (nar .boolean (0 : Int32)) p1)), .unset, .unset, .unset, .unset, .unset]) rfl k) ?_
  refine go (B := T9.setTop (mkF m 56 #[.val (.int p0), .val (.int p1), .val (.int p2), .val (.ref b1), .val (.ref b3), .val (.ref b5), .val (.int (f4 p1 (nar .boolean (1 : Int32)) p0)), .val (.int (f4 p1 (nar .boolean (0 : Int32)) p0)), .val (.int (f4 p0 (nar .boolean (0 : Int32)) p1)), .unset, .unset, .unset, .unset, .unset] [(.ref b1)])) (fun _ k => XS.aloadN X9.here hx rfl (hb hby at_55) rfl rfl k) ?_
  refine go (B := T9.setTop (mkF m 57 #[.val (.int p0), .val (.int p1), .val (.int p2), .val (.ref b1), .val (.ref b3), .val (.ref b5), .val (.int (f4 p1 (nar .boolean (1 : Int32)) p0)), .val (.int (f4 p1 (nar .boolean (0 : Int32)) p0)), .val (.int (f4 p0 (nar .boolean (0 : Int32)) p1)), .unset, .unset, .unset, .unset, .unset] [(.int p2), (.ref b1)])) (fun _ k => XS.iloadN X9.here hx rfl (hb hby at_56) rfl k) ?_
  obtain ⟨cq10, kq10, q10a, q10b, q10c⟩ := isOf hZ e9 E_b1_6
  obtain ⟨_, _, ⟨T10, L10, k10, n10⟩, -, X10, ⟨Lc10, hQ10, l10, y10, z10⟩, st10⟩ := X9.virtualBack hx (y := (⟨"com/example/saltwake/saltwake/voyage/JellyfishCard$Challenge", "passedBy", "(I)Z"⟩ : MethodName)) (z := (⟨"com/example/saltwake/saltwake/voyage/JellyfishCard$Challenge", "passedBy", "(I)Z"⟩ : MethodName)) hown (mvT hZ (hw _ (List.mem_of_getElem? (i := 18) rfl))) (mvT hZ (hw _ (List.mem_of_getElem? (i := 19) rfl))) (notFace_of_selects (args := #[]) (mvT hZ (hw _ (List.mem_of_getElem? (i := 21) rfl)))) (mvT hZ (hw _ (List.mem_of_getElem? (i := 21) rfl))) (mvT hZ (hw _ (List.mem_of_getElem? (i := 20) rfl))) (by decide) (backOf (W := 0) (rm4 l Z aw hw [] b1 p2 (nar .boolean (1 : Int32)) p0 T6.heap n0 Z6 F_higher_b1_6 F_than_b1_6) hZ (hw _ (List.mem_of_getElem? (i := 22) rfl)) (hw _ (List.mem_of_getElem? (i := 2) rfl)) (by decide) (by decide)) q10a q10c (g := (mkF m 57 #[.val (.int p0), .val (.int p1), .val (.int p2), .val (.ref b1), .val (.ref b3), .val (.ref b5), .val (.int (f4 p1 (nar .boolean (1 : Int32)) p0)), .val (.int (f4 p1 (nar .boolean (0 : Int32)) p0)), .val (.int (f4 p0 (nar .boolean (0 : Int32)) p1)), .unset, .unset, .unset, .unset, .unset] [(.int p2), (.ref b1)])) rfl (by rw [hml]; rfl) (Steps.refl _) (argsL := [(.int p2)]) (rest := []) (lenOf pd_2 rfl) rfl (by show 2 * 0 + _ ≤ _; exact Nat.le_of_eq rfl) (hb hby at_57) (fun _ _ => ⟨rfl, e9, (by decide : 3 + 0 ≤ _), (by decide : 6 + 0 ≤ _)⟩)
  dsimp only [Pt.U, Pt.locs, Pt.cells, Pt.slots] at X10 l10 y10 z10 st10 hQ10
  subst l10 y10 z10
  obtain ⟨rfl, rfl, e10⟩ := hQ10
  have N10 := Fr.app N9 (Fr.nil n0)
  refine go (B := T10.setTop (mkF m 60 #[.val (.int p0), .val (.int p1), .val (.int p2), .val (.ref b1), .val (.ref b3), .val (.ref b5), .val (.int (f4 p1 (nar .boolean (1 : Int32)) p0)), .val (.int (f4 p1 (nar .boolean (0 : Int32)) p0)), .val (.int (f4 p0 (nar .boolean (0 : Int32)) p1)), .unset, .unset, .unset, .unset, .unset] [(.int (f4 p2 (nar .boolean (1 : Int32)) p0))])) (fun _ k => st10.trans k) ?_
  refine go (B := T10.setTop (mkF m 62 #[.val (.int p0), .val (.int p1), .val (.int p2), .val (.ref b1), .val (.ref b3), .val (.ref b5), .val (.int (f4 p1 (nar .boolean (1 : Int32)) p0)), .val (.int (f4 p1 (nar .boolean (0 : Int32)) p0)), .val (.int (f4 p0 (nar .boolean (0 : Int32)) p1)), .val (.int (f4 p2 (nar .boolean (1 : Int32)) p0)), .unset, .unset, .unset, .unset] [])) (fun _ k => XS.istore X10.here hx rfl (hb hby at_60) rfl (l' := #[.val (.int p0), .val (.int p1), .val (.int p2), .val (.ref b1), .val (.ref b3), .val (.ref b5), .val (.int (f4 p1 (nar .boolean (1 : Int32)) p0)), .val (.int (f4 p1 (nar .boolean (0 : Int32)) p0)), .val (.int (f4 p0 (nar .boolean (0 : Int32)) p1)), .val (.int (f4 p2 (nar .boolean (1 : Int32)) p0)), .unset, .unset, .unset, .unset]) rfl k) ?_
  refine go (B := T10.setTop (mkF m 64 #[.val (.int p0), .val (.int p1), .val (.int p2), .val (.ref b1), .val (.ref b3), .val (.ref b5), .val (.int (f4 p1 (nar .boolean (1 : Int32)) p0)), .val (.int (f4 p1 (nar .boolean (0 : Int32)) p0)), .val (.int (f4 p0 (nar .boolean (0 : Int32)) p1)), .val (.int (f4 p2 (nar .boolean (1 : Int32)) p0)), .unset, .unset, .unset, .unset] [(.int (f4 p1 (nar .boolean (1 : Int32)) p0))])) (fun _ k => XS.iload X10.here hx rfl (hb hby at_62) rfl k) ?_
  suffices Kj11 : ∀ (T11 : State) (L11 : List Loc), Stand p l e room_1 s m #[(.int p0), (.int p1), (.int p2)] below meth c T11 L11 3 6 → Fr n0 L11 → T11.heap = T6.heap → Go p.tables e below F (T11.setTop (mkF m 72 #[.val (.int p0), .val (.int p1), .val (.int p2), .val (.ref b1), .val (.ref b3), .val (.ref b5), .val (.int (f4 p1 (nar .boolean (1 : Int32)) p0)), .val (.int (f4 p1 (nar .boolean (0 : Int32)) p0)), .val (.int (f4 p0 (nar .boolean (0 : Int32)) p1)), .val (.int (f4 p2 (nar .boolean (1 : Int32)) p0)), .unset, .unset, .unset, .unset] [(.int (f0_z0 p0 p1))])) by
    by_cases hc12 : (f4 p1 (nar .boolean (1 : Int32)) p0) = (0 : Int32)
    · refine go (B := T10.setTop (mkF m 71 #[.val (.int p0), .val (.int p1), .val (.int p2), .val (.ref b1), .val (.ref b3), .val (.ref b5), .val (.int (f4 p1 (nar .boolean (1 : Int32)) p0)), .val (.int (f4 p1 (nar .boolean (0 : Int32)) p0)), .val (.int (f4 p0 (nar .boolean (0 : Int32)) p1)), .val (.int (f4 p2 (nar .boolean (1 : Int32)) p0)), .unset, .unset, .unset, .unset] [])) (fun _ k => XS.ifYes X10.here hx rfl (pc0 := 64) (pc' := 71) rfl (hb hby at_64) rfl ((if0 _ _).trans (teq hc12).1) (by decide) (by decide) k) ?_
      refine go (B := T10.setTop (mkF m 72 #[.val (.int p0), .val (.int p1), .val (.int p2), .val (.ref b1), .val (.ref b3), .val (.ref b5), .val (.int (f4 p1 (nar .boolean (1 : Int32)) p0)), .val (.int (f4 p1 (nar .boolean (0 : Int32)) p0)), .val (.int (f4 p0 (nar .boolean (0 : Int32)) p1)), .val (.int (f4 p2 (nar .boolean (1 : Int32)) p0)), .unset, .unset, .unset, .unset] [(.int (0 : Int32))])) (fun _ k => XS.iconst X10.here hx rfl (hb hby at_71) k) ?_
      rw [show (f0_z0 p0 p1) = (0 : Int32) from by unfold f0_z0; rw [if_pos hc12]] at Kj11
      exact Kj11 _ _ X10 N10 e10
    · refine go (B := T10.setTop (mkF m 67 #[.val (.int p0), .val (.int p1), .val (.int p2), .val (.ref b1), .val (.ref b3), .val (.ref b5), .val (.int (f4 p1 (nar .boolean (1 : Int32)) p0)), .val (.int (f4 p1 (nar .boolean (0 : Int32)) p0)), .val (.int (f4 p0 (nar .boolean (0 : Int32)) p1)), .val (.int (f4 p2 (nar .boolean (1 : Int32)) p0)), .unset, .unset, .unset, .unset] [])) (fun _ k => XS.ifNo X10.here hx rfl (hb hby at_64) rfl ((if0 _ _).trans (feq hc12).1) k) ?_
      refine go (B := T10.setTop (mkF m 68 #[.val (.int p0), .val (.int p1), .val (.int p2), .val (.ref b1), .val (.ref b3), .val (.ref b5), .val (.int (f4 p1 (nar .boolean (1 : Int32)) p0)), .val (.int (f4 p1 (nar .boolean (0 : Int32)) p0)), .val (.int (f4 p0 (nar .boolean (0 : Int32)) p1)), .val (.int (f4 p2 (nar .boolean (1 : Int32)) p0)), .unset, .unset, .unset, .unset] [(.int (1 : Int32))])) (fun _ k => XS.iconst X10.here hx rfl (hb hby at_67) k) ?_
      refine go (B := T10.setTop (mkF m 72 #[.val (.int p0), .val (.int p1), .val (.int p2), .val (.ref b1), .val (.ref b3), .val (.ref b5), .val (.int (f4 p1 (nar .boolean (1 : Int32)) p0)), .val (.int (f4 p1 (nar .boolean (0 : Int32)) p0)), .val (.int (f4 p0 (nar .boolean (0 : Int32)) p1)), .val (.int (f4 p2 (nar .boolean (1 : Int32)) p0)), .unset, .unset, .unset, .unset] [(.int (1 : Int32))])) (fun _ k => XS.goto X10.here hx rfl (pc0 := 68) (pc' := 72) rfl (hb hby at_68) (by decide) (by decide) k) ?_
      rw [show (f0_z0 p0 p1) = (1 : Int32) from by unfold f0_z0; rw [if_neg hc12]] at Kj11
      exact Kj11 _ _ X10 N10 e10
  intro T11 L11 X11 N11 e11
  refine go (B := T11.setTop (mkF m 74 #[.val (.int p0), .val (.int p1), .val (.int p2), .val (.ref b1), .val (.ref b3), .val (.ref b5), .val (.int (f4 p1 (nar .boolean (1 : Int32)) p0)), .val (.int (f4 p1 (nar .boolean (0 : Int32)) p0)), .val (.int (f4 p0 (nar .boolean (0 : Int32)) p1)), .val (.int (f4 p2 (nar .boolean (1 : Int32)) p0)), .unset, .unset, .unset, .unset] [(.int (f4 p1 (nar .boolean (0 : Int32)) p0)), (.int (f0_z0 p0 p1))])) (fun _ k => XS.iload X11.here hx rfl (hb hby at_72) rfl k) ?_
  suffices Kj13 : ∀ (T13 : State) (L13 : List Loc), Stand p l e room_1 s m #[(.int p0), (.int p1), (.int p2)] below meth c T13 L13 3 6 → Fr n0 L13 → T13.heap = T6.heap → Go p.tables e below F (T13.setTop (mkF m 82 #[.val (.int p0), .val (.int p1), .val (.int p2), .val (.ref b1), .val (.ref b3), .val (.ref b5), .val (.int (f4 p1 (nar .boolean (1 : Int32)) p0)), .val (.int (f4 p1 (nar .boolean (0 : Int32)) p0)), .val (.int (f4 p0 (nar .boolean (0 : Int32)) p1)), .val (.int (f4 p2 (nar .boolean (1 : Int32)) p0)), .unset, .unset, .unset, .unset] [(.int (f0_z1 p0 p1)), (.int (f0_z0 p0 p1))])) by
    by_cases hc14 : (f4 p1 (nar .boolean (0 : Int32)) p0) = (0 : Int32)
    · refine go (B := T11.setTop (mkF m 81 #[.val (.int p0), .val (.int p1), .val (.int p2), .val (.ref b1), .val (.ref b3), .val (.ref b5), .val (.int (f4 p1 (nar .boolean (1 : Int32)) p0)), .val (.int (f4 p1 (nar .boolean (0 : Int32)) p0)), .val (.int (f4 p0 (nar .boolean (0 : Int32)) p1)), .val (.int (f4 p2 (nar .boolean (1 : Int32)) p0)), .unset, .unset, .unset, .unset] [(.int (f0_z0 p0 p1))])) (fun _ k => XS.ifYes X11.here hx rfl (pc0 := 74) (pc' := 81) rfl (hb hby at_74) rfl ((if0 _ _).trans (teq hc14).1) (by decide) (by decide) k) ?_
      refine go (B := T11.setTop (mkF m 82 #[.val (.int p0), .val (.int p1), .val (.int p2), .val (.ref b1), .val (.ref b3), .val (.ref b5), .val (.int (f4 p1 (nar .boolean (1 : Int32)) p0)), .val (.int (f4 p1 (nar .boolean (0 : Int32)) p0)), .val (.int (f4 p0 (nar .boolean (0 : Int32)) p1)), .val (.int (f4 p2 (nar .boolean (1 : Int32)) p0)), .unset, .unset, .unset, .unset] [(.int (0 : Int32)), (.int (f0_z0 p0 p1))])) (fun _ k => XS.iconst X11.here hx rfl (hb hby at_81) k) ?_
      rw [show (f0_z1 p0 p1) = (0 : Int32) from by unfold f0_z1; rw [if_pos hc14]] at Kj13
      exact Kj13 _ _ X11 N11 e11
    · refine go (B := T11.setTop (mkF m 77 #[.val (.int p0), .val (.int p1), .val (.int p2), .val (.ref b1), .val (.ref b3), .val (.ref b5), .val (.int (f4 p1 (nar .boolean (1 : Int32)) p0)), .val (.int (f4 p1 (nar .boolean (0 : Int32)) p0)), .val (.int (f4 p0 (nar .boolean (0 : Int32)) p1)), .val (.int (f4 p2 (nar .boolean (1 : Int32)) p0)), .unset, .unset, .unset, .unset] [(.int (f0_z0 p0 p1))])) (fun _ k => XS.ifNo X11.here hx rfl (hb hby at_74) rfl ((if0 _ _).trans (feq hc14).1) k) ?_
      refine go (B := T11.setTop (mkF m 78 #[.val (.int p0), .val (.int p1), .val (.int p2), .val (.ref b1), .val (.ref b3), .val (.ref b5), .val (.int (f4 p1 (nar .boolean (1 : Int32)) p0)), .val (.int (f4 p1 (nar .boolean (0 : Int32)) p0)), .val (.int (f4 p0 (nar .boolean (0 : Int32)) p1)), .val (.int (f4 p2 (nar .boolean (1 : Int32)) p0)), .unset, .unset, .unset, .unset] [(.int (1 : Int32)), (.int (f0_z0 p0 p1))])) (fun _ k => XS.iconst X11.here hx rfl (hb hby at_77) k) ?_
      refine go (B := T11.setTop (mkF m 82 #[.val (.int p0), .val (.int p1), .val (.int p2), .val (.ref b1), .val (.ref b3), .val (.ref b5), .val (.int (f4 p1 (nar .boolean (1 : Int32)) p0)), .val (.int (f4 p1 (nar .boolean (0 : Int32)) p0)), .val (.int (f4 p0 (nar .boolean (0 : Int32)) p1)), .val (.int (f4 p2 (nar .boolean (1 : Int32)) p0)), .unset, .unset, .unset, .unset] [(.int (1 : Int32)), (.int (f0_z0 p0 p1))])) (fun _ k => XS.goto X11.here hx rfl (pc0 := 78) (pc' := 82) rfl (hb hby at_78) (by decide) (by decide) k) ?_
      rw [show (f0_z1 p0 p1) = (1 : Int32) from by unfold f0_z1; rw [if_neg hc14]] at Kj13
      exact Kj13 _ _ X11 N11 e11
  intro T13 L13 X13 N13 e13
  refine go (B := T13.setTop (mkF m 83 #[.val (.int p0), .val (.int p1), .val (.int p2), .val (.ref b1), .val (.ref b3), .val (.ref b5), .val (.int (f4 p1 (nar .boolean (1 : Int32)) p0)), .val (.int (f4 p1 (nar .boolean (0 : Int32)) p0)), .val (.int (f4 p0 (nar .boolean (0 : Int32)) p1)), .val (.int (f4 p2 (nar .boolean (1 : Int32)) p0)), .unset, .unset, .unset, .unset] [(.int ((f0_z0 p0 p1) + (f0_z1 p0 p1)))])) (fun _ k => XS.iadd X13.here hx rfl (hb hby at_82) rfl k) ?_
  refine go (B := T13.setTop (mkF m 84 #[.val (.int p0), .val (.int p1), .val (.int p2), .val (.ref b1), .val (.ref b3), .val (.ref b5), .val (.int (f4 p1 (nar .boolean (1 : Int32)) p0)), .val (.int (f4 p1 (nar .boolean (0 : Int32)) p0)), .val (.int (f4 p0 (nar .boolean (0 : Int32)) p1)), .val (.int (f4 p2 (nar .boolean (1 : Int32)) p0)), .unset, .unset, .unset, .unset] [(.int p1), (.int ((f0_z0 p0 p1) + (f0_z1 p0 p1)))])) (fun _ k => XS.iloadN X13.here hx rfl (hb hby at_83) rfl k) ?_
  refine go (B := T13.setTop (mkF m 85 #[.val (.int p0), .val (.int p1), .val (.int p2), .val (.ref b1), .val (.ref b3), .val (.ref b5), .val (.int (f4 p1 (nar .boolean (1 : Int32)) p0)), .val (.int (f4 p1 (nar .boolean (0 : Int32)) p0)), .val (.int (f4 p0 (nar .boolean (0 : Int32)) p1)), .val (.int (f4 p2 (nar .boolean (1 : Int32)) p0)), .unset, .unset, .unset, .unset] [(.int p0), (.int p1), (.int ((f0_z0 p0 p1) + (f0_z1 p0 p1)))])) (fun _ k => XS.iloadN X13.here hx rfl (hb hby at_84) rfl k) ?_
  suffices Kj15 : ∀ (T15 : State) (L15 : List Loc), Stand p l e room_1 s m #[(.int p0), (.int p1), (.int p2)] below meth c T15 L15 3 6 → Fr n0 L15 → T15.heap = T6.heap → Go p.tables e below F (T15.setTop (mkF m 93 #[.val (.int p0), .val (.int p1), .val (.int p2), .val (.ref b1), .val (.ref b3), .val (.ref b5), .val (.int (f4 p1 (nar .boolean (1 : Int32)) p0)), .val (.int (f4 p1 (nar .boolean (0 : Int32)) p0)), .val (.int (f4 p0 (nar .boolean (0 : Int32)) p1)), .val (.int (f4 p2 (nar .boolean (1 : Int32)) p0)), .unset, .unset, .unset, .unset] [(.int (f0_z2 p0 p1)), (.int ((f0_z0 p0 p1) + (f0_z1 p0 p1)))])) by
    by_cases hc16 : p1 = p0
    · refine go (B := T13.setTop (mkF m 88 #[.val (.int p0), .val (.int p1), .val (.int p2), .val (.ref b1), .val (.ref b3), .val (.ref b5), .val (.int (f4 p1 (nar .boolean (1 : Int32)) p0)), .val (.int (f4 p1 (nar .boolean (0 : Int32)) p0)), .val (.int (f4 p0 (nar .boolean (0 : Int32)) p1)), .val (.int (f4 p2 (nar .boolean (1 : Int32)) p0)), .unset, .unset, .unset, .unset] [(.int ((f0_z0 p0 p1) + (f0_z1 p0 p1)))])) (fun _ k => XS.icmpNo X13.here hx rfl (hb hby at_85) rfl (teq hc16).2 k) ?_
      refine go (B := T13.setTop (mkF m 89 #[.val (.int p0), .val (.int p1), .val (.int p2), .val (.ref b1), .val (.ref b3), .val (.ref b5), .val (.int (f4 p1 (nar .boolean (1 : Int32)) p0)), .val (.int (f4 p1 (nar .boolean (0 : Int32)) p0)), .val (.int (f4 p0 (nar .boolean (0 : Int32)) p1)), .val (.int (f4 p2 (nar .boolean (1 : Int32)) p0)), .unset, .unset, .unset, .unset] [(.int (1 : Int32)), (.int ((f0_z0 p0 p1) + (f0_z1 p0 p1)))])) (fun _ k => XS.iconst X13.here hx rfl (hb hby at_88) k) ?_
      refine go (B := T13.setTop (mkF m 93 #[.val (.int p0), .val (.int p1), .val (.int p2), .val (.ref b1), .val (.ref b3), .val (.ref b5), .val (.int (f4 p1 (nar .boolean (1 : Int32)) p0)), .val (.int (f4 p1 (nar .boolean (0 : Int32)) p0)), .val (.int (f4 p0 (nar .boolean (0 : Int32)) p1)), .val (.int (f4 p2 (nar .boolean (1 : Int32)) p0)), .unset, .unset, .unset, .unset] [(.int (1 : Int32)), (.int ((f0_z0 p0 p1) + (f0_z1 p0 p1)))])) (fun _ k => XS.goto X13.here hx rfl (pc0 := 89) (pc' := 93) rfl (hb hby at_89) (by decide) (by decide) k) ?_
      rw [show (f0_z2 p0 p1) = (1 : Int32) from by unfold f0_z2; rw [if_pos hc16]] at Kj15
      exact Kj15 _ _ X13 N13 e13
    · refine go (B := T13.setTop (mkF m 92 #[.val (.int p0), .val (.int p1), .val (.int p2), .val (.ref b1), .val (.ref b3), .val (.ref b5), .val (.int (f4 p1 (nar .boolean (1 : Int32)) p0)), .val (.int (f4 p1 (nar .boolean (0 : Int32)) p0)), .val (.int (f4 p0 (nar .boolean (0 : Int32)) p1)), .val (.int (f4 p2 (nar .boolean (1 : Int32)) p0)), .unset, .unset, .unset, .unset] [(.int ((f0_z0 p0 p1) + (f0_z1 p0 p1)))])) (fun _ k => XS.icmpYes X13.here hx rfl (pc0 := 85) (pc' := 92) rfl (hb hby at_85) rfl (feq hc16).2 (by decide) (by decide) k) ?_
      refine go (B := T13.setTop (mkF m 93 #[.val (.int p0), .val (.int p1), .val (.int p2), .val (.ref b1), .val (.ref b3), .val (.ref b5), .val (.int (f4 p1 (nar .boolean (1 : Int32)) p0)), .val (.int (f4 p1 (nar .boolean (0 : Int32)) p0)), .val (.int (f4 p0 (nar .boolean (0 : Int32)) p1)), .val (.int (f4 p2 (nar .boolean (1 : Int32)) p0)), .unset, .unset, .unset, .unset] [(.int (0 : Int32)), (.int ((f0_z0 p0 p1) + (f0_z1 p0 p1)))])) (fun _ k => XS.iconst X13.here hx rfl (hb hby at_92) k) ?_
      rw [show (f0_z2 p0 p1) = (0 : Int32) from by unfold f0_z2; rw [if_neg hc16]] at Kj15
      exact Kj15 _ _ X13 N13 e13
  intro T15 L15 X15 N15 e15
  refine go (B := T15.setTop (mkF m 94 #[.val (.int p0), .val (.int p1), .val (.int p2), .val (.ref b1), .val (.ref b3), .val (.ref b5), .val (.int (f4 p1 (nar .boolean (1 : Int32)) p0)), .val (.int (f4 p1 (nar .boolean (0 : Int32)) p0)), .val (.int (f4 p0 (nar .boolean (0 : Int32)) p1)), .val (.int (f4 p2 (nar .boolean (1 : Int32)) p0)), .unset, .unset, .unset, .unset] [(.int (((f0_z0 p0 p1) + (f0_z1 p0 p1)) + (f0_z2 p0 p1)))])) (fun _ k => XS.iadd X15.here hx rfl (hb hby at_93) rfl k) ?_
  refine go (B := T15.setTop (mkF m 96 #[.val (.int p0), .val (.int p1), .val (.int p2), .val (.ref b1), .val (.ref b3), .val (.ref b5), .val (.int (f4 p1 (nar .boolean (1 : Int32)) p0)), .val (.int (f4 p1 (nar .boolean (0 : Int32)) p0)), .val (.int (f4 p0 (nar .boolean (0 : Int32)) p1)), .val (.int (f4 p2 (nar .boolean (1 : Int32)) p0)), .val (.int (((f0_z0 p0 p1) + (f0_z1 p0 p1)) + (f0_z2 p0 p1))), .unset, .unset, .unset] [])) (fun _ k => XS.istore X15.here hx rfl (hb hby at_94) rfl (l' := #[.val (.int p0), .val (.int p1), .val (.int p2), .val (.ref b1), .val (.ref b3), .val (.ref b5), .val (.int (f4 p1 (nar .boolean (1 : Int32)) p0)), .val (.int (f4 p1 (nar .boolean (0 : Int32)) p0)), .val (.int (f4 p0 (nar .boolean (0 : Int32)) p1)), .val (.int (f4 p2 (nar .boolean (1 : Int32)) p0)), .val (.int (((f0_z0 p0 p1) + (f0_z1 p0 p1)) + (f0_z2 p0 p1))), .unset, .unset, .unset]) rfl k) ?_
  refine go (B := T15.setTop (mkF m 98 #[.val (.int p0), .val (.int p1), .val (.int p2), .val (.ref b1), .val (.ref b3), .val (.ref b5), .val (.int (f4 p1 (nar .boolean (1 : Int32)) p0)), .val (.int (f4 p1 (nar .boolean (0 : Int32)) p0)), .val (.int (f4 p0 (nar .boolean (0 : Int32)) p1)), .val (.int (f4 p2 (nar .boolean (1 : Int32)) p0)), .val (.int (((f0_z0 p0 p1) + (f0_z1 p0 p1)) + (f0_z2 p0 p1))), .unset, .unset, .unset] [(.int (((f0_z0 p0 p1) + (f0_z1 p0 p1)) + (f0_z2 p0 p1)))])) (fun _ k => XS.iload X15.here hx rfl (hb hby at_96) rfl k) ?_
  refine go (B := T15.setTop (mkF m 99 #[.val (.int p0), .val (.int p1), .val (.int p2), .val (.ref b1), .val (.ref b3), .val (.ref b5), .val (.int (f4 p1 (nar .boolean (1 : Int32)) p0)), .val (.int (f4 p1 (nar .boolean (0 : Int32)) p0)), .val (.int (f4 p0 (nar .boolean (0 : Int32)) p1)), .val (.int (f4 p2 (nar .boolean (1 : Int32)) p0)), .val (.int (((f0_z0 p0 p1) + (f0_z1 p0 p1)) + (f0_z2 p0 p1))), .unset, .unset, .unset] [(.int (1 : Int32)), (.int (((f0_z0 p0 p1) + (f0_z1 p0 p1)) + (f0_z2 p0 p1)))])) (fun _ k => XS.iconst X15.here hx rfl (hb hby at_98) k) ?_
  suffices Kj17 : ∀ (T17 : State) (L17 : List Loc), Stand p l e room_1 s m #[(.int p0), (.int p1), (.int p2)] below meth c T17 L17 3 6 → Fr n0 L17 → T17.heap = T6.heap → Go p.tables e below F (T17.setTop (mkF m 107 #[.val (.int p0), .val (.int p1), .val (.int p2), .val (.ref b1), .val (.ref b3), .val (.ref b5), .val (.int (f4 p1 (nar .boolean (1 : Int32)) p0)), .val (.int (f4 p1 (nar .boolean (0 : Int32)) p0)), .val (.int (f4 p0 (nar .boolean (0 : Int32)) p1)), .val (.int (f4 p2 (nar .boolean (1 : Int32)) p0)), .val (.int (((f0_z0 p0 p1) + (f0_z1 p0 p1)) + (f0_z2 p0 p1))), .unset, .unset, .unset] [(.int (f0_z3 p0 p1))])) by
    by_cases hc18 : (((f0_z0 p0 p1) + (f0_z1 p0 p1)) + (f0_z2 p0 p1)) = (1 : Int32)
    · refine go (B := T15.setTop (mkF m 102 #[.val (.int p0), .val (.int p1), .val (.int p2), .val (.ref b1), .val (.ref b3), .val (.ref b5), .val (.int (f4 p1 (nar .boolean (1 : Int32)) p0)), .val (.int (f4 p1 (nar .boolean (0 : Int32)) p0)), .val (.int (f4 p0 (nar .boolean (0 : Int32)) p1)), .val (.int (f4 p2 (nar .boolean (1 : Int32)) p0)), .val (.int (((f0_z0 p0 p1) + (f0_z1 p0 p1)) + (f0_z2 p0 p1))), .unset, .unset, .unset] [])) (fun _ k => XS.icmpNo X15.here hx rfl (hb hby at_99) rfl (teq hc18).2 k) ?_
      refine go (B := T15.setTop (mkF m 103 #[.val (.int p0), .val (.int p1), .val (.int p2), .val (.ref b1), .val (.ref b3), .val (.ref b5), .val (.int (f4 p1 (nar .boolean (1 : Int32)) p0)), .val (.int (f4 p1 (nar .boolean (0 : Int32)) p0)), .val (.int (f4 p0 (nar .boolean (0 : Int32)) p1)), .val (.int (f4 p2 (nar .boolean (1 : Int32)) p0)), .val (.int (((f0_z0 p0 p1) + (f0_z1 p0 p1)) + (f0_z2 p0 p1))), .unset, .unset, .unset] [(.int (1 : Int32))])) (fun _ k => XS.iconst X15.here hx rfl (hb hby at_102) k) ?_
      refine go (B := T15.setTop (mkF m 107 #[.val (.int p0), .val (.int p1), .val (.int p2), .val (.ref b1), .val (.ref b3), .val (.ref b5), .val (.int (f4 p1 (nar .boolean (1 : Int32)) p0)), .val (.int (f4 p1 (nar .boolean (0 : Int32)) p0)), .val (.int (f4 p0 (nar .boolean (0 : Int32)) p1)), .val (.int (f4 p2 (nar .boolean (1 : Int32)) p0)), .val (.int (((f0_z0 p0 p1) + (f0_z1 p0 p1)) + (f0_z2 p0 p1))), .unset, .unset, .unset] [(.int (1 : Int32))])) (fun _ k => XS.goto X15.here hx rfl (pc0 := 103) (pc' := 107) rfl (hb hby at_103) (by decide) (by decide) k) ?_
      rw [show (f0_z3 p0 p1) = (1 : Int32) from by unfold f0_z3; rw [if_pos hc18]] at Kj17
      exact Kj17 _ _ X15 N15 e15
    · refine go (B := T15.setTop (mkF m 106 #[.val (.int p0), .val (.int p1), .val (.int p2), .val (.ref b1), .val (.ref b3), .val (.ref b5), .val (.int (f4 p1 (nar .boolean (1 : Int32)) p0)), .val (.int (f4 p1 (nar .boolean (0 : Int32)) p0)), .val (.int (f4 p0 (nar .boolean (0 : Int32)) p1)), .val (.int (f4 p2 (nar .boolean (1 : Int32)) p0)), .val (.int (((f0_z0 p0 p1) + (f0_z1 p0 p1)) + (f0_z2 p0 p1))), .unset, .unset, .unset] [])) (fun _ k => XS.icmpYes X15.here hx rfl (pc0 := 99) (pc' := 106) rfl (hb hby at_99) rfl (feq hc18).2 (by decide) (by decide) k) ?_
      refine go (B := T15.setTop (mkF m 107 #[.val (.int p0), .val (.int p1), .val (.int p2), .val (.ref b1), .val (.ref b3), .val (.ref b5), .val (.int (f4 p1 (nar .boolean (1 : Int32)) p0)), .val (.int (f4 p1 (nar .boolean (0 : Int32)) p0)), .val (.int (f4 p0 (nar .boolean (0 : Int32)) p1)), .val (.int (f4 p2 (nar .boolean (1 : Int32)) p0)), .val (.int (((f0_z0 p0 p1) + (f0_z1 p0 p1)) + (f0_z2 p0 p1))), .unset, .unset, .unset] [(.int (0 : Int32))])) (fun _ k => XS.iconst X15.here hx rfl (hb hby at_106) k) ?_
      rw [show (f0_z3 p0 p1) = (0 : Int32) from by unfold f0_z3; rw [if_neg hc18]] at Kj17
      exact Kj17 _ _ X15 N15 e15
  intro T17 L17 X17 N17 e17
  refine go (B := T17.setTop (mkF m 109 #[.val (.int p0), .val (.int p1), .val (.int p2), .val (.ref b1), .val (.ref b3), .val (.ref b5), .val (.int (f4 p1 (nar .boolean (1 : Int32)) p0)), .val (.int (f4 p1 (nar .boolean (0 : Int32)) p0)), .val (.int (f4 p0 (nar .boolean (0 : Int32)) p1)), .val (.int (f4 p2 (nar .boolean (1 : Int32)) p0)), .val (.int (((f0_z0 p0 p1) + (f0_z1 p0 p1)) + (f0_z2 p0 p1))), .val (.int (f0_z3 p0 p1)), .unset, .unset] [])) (fun _ k => XS.istore X17.here hx rfl (hb hby at_107) rfl (l' := #[.val (.int p0), .val (.int p1), .val (.int p2), .val (.ref b1), .val (.ref b3), .val (.ref b5), .val (.int (f4 p1 (nar .boolean (1 : Int32)) p0)), .val (.int (f4 p1 (nar .boolean (0 : Int32)) p0)), .val (.int (f4 p0 (nar .boolean (0 : Int32)) p1)), .val (.int (f4 p2 (nar .boolean (1 : Int32)) p0)), .val (.int (((f0_z0 p0 p1) + (f0_z1 p0 p1)) + (f0_z2 p0 p1))), .val (.int (f0_z3 p0 p1)), .unset, .unset]) rfl k) ?_
  refine go (B := T17.setTop (mkF m 111 #[.val (.int p0), .val (.int p1), .val (.int p2), .val (.ref b1), .val (.ref b3), .val (.ref b5), .val (.int (f4 p1 (nar .boolean (1 : Int32)) p0)), .val (.int (f4 p1 (nar .boolean (0 : Int32)) p0)), .val (.int (f4 p0 (nar .boolean (0 : Int32)) p1)), .val (.int (f4 p2 (nar .boolean (1 : Int32)) p0)), .val (.int (((f0_z0 p0 p1) + (f0_z1 p0 p1)) + (f0_z2 p0 p1))), .val (.int (f0_z3 p0 p1)), .unset, .unset] [(.int (f4 p1 (nar .boolean (1 : Int32)) p0))])) (fun _ k => XS.iload X17.here hx rfl (hb hby at_109) rfl k) ?_
  refine go (B := T17.setTop (mkF m 113 #[.val (.int p0), .val (.int p1), .val (.int p2), .val (.ref b1), .val (.ref b3), .val (.ref b5), .val (.int (f4 p1 (nar .boolean (1 : Int32)) p0)), .val (.int (f4 p1 (nar .boolean (0 : Int32)) p0)), .val (.int (f4 p0 (nar .boolean (0 : Int32)) p1)), .val (.int (f4 p2 (nar .boolean (1 : Int32)) p0)), .val (.int (((f0_z0 p0 p1) + (f0_z1 p0 p1)) + (f0_z2 p0 p1))), .val (.int (f0_z3 p0 p1)), .unset, .unset] [(.int (f4 p0 (nar .boolean (0 : Int32)) p1)), (.int (f4 p1 (nar .boolean (1 : Int32)) p0))])) (fun _ k => XS.iload X17.here hx rfl (hb hby at_111) rfl k) ?_
  suffices Kj19 : ∀ (T19 : State) (L19 : List Loc), Stand p l e room_1 s m #[(.int p0), (.int p1), (.int p2)] below meth c T19 L19 3 6 → Fr n0 L19 → T19.heap = T6.heap → Go p.tables e below F (T19.setTop (mkF m 121 #[.val (.int p0), .val (.int p1), .val (.int p2), .val (.ref b1), .val (.ref b3), .val (.ref b5), .val (.int (f4 p1 (nar .boolean (1 : Int32)) p0)), .val (.int (f4 p1 (nar .boolean (0 : Int32)) p0)), .val (.int (f4 p0 (nar .boolean (0 : Int32)) p1)), .val (.int (f4 p2 (nar .boolean (1 : Int32)) p0)), .val (.int (((f0_z0 p0 p1) + (f0_z1 p0 p1)) + (f0_z2 p0 p1))), .val (.int (f0_z3 p0 p1)), .unset, .unset] [(.int (f0_z4 p0 p1))])) by
    by_cases hc20 : (f4 p1 (nar .boolean (1 : Int32)) p0) = (f4 p0 (nar .boolean (0 : Int32)) p1)
    · refine go (B := T17.setTop (mkF m 116 #[.val (.int p0), .val (.int p1), .val (.int p2), .val (.ref b1), .val (.ref b3), .val (.ref b5), .val (.int (f4 p1 (nar .boolean (1 : Int32)) p0)), .val (.int (f4 p1 (nar .boolean (0 : Int32)) p0)), .val (.int (f4 p0 (nar .boolean (0 : Int32)) p1)), .val (.int (f4 p2 (nar .boolean (1 : Int32)) p0)), .val (.int (((f0_z0 p0 p1) + (f0_z1 p0 p1)) + (f0_z2 p0 p1))), .val (.int (f0_z3 p0 p1)), .unset, .unset] [])) (fun _ k => XS.icmpNo X17.here hx rfl (hb hby at_113) rfl (teq hc20).2 k) ?_
      refine go (B := T17.setTop (mkF m 117 #[.val (.int p0), .val (.int p1), .val (.int p2), .val (.ref b1), .val (.ref b3), .val (.ref b5), .val (.int (f4 p1 (nar .boolean (1 : Int32)) p0)), .val (.int (f4 p1 (nar .boolean (0 : Int32)) p0)), .val (.int (f4 p0 (nar .boolean (0 : Int32)) p1)), .val (.int (f4 p2 (nar .boolean (1 : Int32)) p0)), .val (.int (((f0_z0 p0 p1) + (f0_z1 p0 p1)) + (f0_z2 p0 p1))), .val (.int (f0_z3 p0 p1)), .unset, .unset] [(.int (1 : Int32))])) (fun _ k => XS.iconst X17.here hx rfl (hb hby at_116) k) ?_
      refine go (B := T17.setTop (mkF m 121 #[.val (.int p0), .val (.int p1), .val (.int p2), .val (.ref b1), .val (.ref b3), .val (.ref b5), .val (.int (f4 p1 (nar .boolean (1 : Int32)) p0)), .val (.int (f4 p1 (nar .boolean (0 : Int32)) p0)), .val (.int (f4 p0 (nar .boolean (0 : Int32)) p1)), .val (.int (f4 p2 (nar .boolean (1 : Int32)) p0)), .val (.int (((f0_z0 p0 p1) + (f0_z1 p0 p1)) + (f0_z2 p0 p1))), .val (.int (f0_z3 p0 p1)), .unset, .unset] [(.int (1 : Int32))])) (fun _ k => XS.goto X17.here hx rfl (pc0 := 117) (pc' := 121) rfl (hb hby at_117) (by decide) (by decide) k) ?_
      rw [show (f0_z4 p0 p1) = (1 : Int32) from by unfold f0_z4; rw [if_pos hc20]] at Kj19
      exact Kj19 _ _ X17 N17 e17
    · refine go (B := T17.setTop (mkF m 120 #[.val (.int p0), .val (.int p1), .val (.int p2), .val (.ref b1), .val (.ref b3), .val (.ref b5), .val (.int (f4 p1 (nar .boolean (1 : Int32)) p0)), .val (.int (f4 p1 (nar .boolean (0 : Int32)) p0)), .val (.int (f4 p0 (nar .boolean (0 : Int32)) p1)), .val (.int (f4 p2 (nar .boolean (1 : Int32)) p0)), .val (.int (((f0_z0 p0 p1) + (f0_z1 p0 p1)) + (f0_z2 p0 p1))), .val (.int (f0_z3 p0 p1)), .unset, .unset] [])) (fun _ k => XS.icmpYes X17.here hx rfl (pc0 := 113) (pc' := 120) rfl (hb hby at_113) rfl (feq hc20).2 (by decide) (by decide) k) ?_
      refine go (B := T17.setTop (mkF m 121 #[.val (.int p0), .val (.int p1), .val (.int p2), .val (.ref b1), .val (.ref b3), .val (.ref b5), .val (.int (f4 p1 (nar .boolean (1 : Int32)) p0)), .val (.int (f4 p1 (nar .boolean (0 : Int32)) p0)), .val (.int (f4 p0 (nar .boolean (0 : Int32)) p1)), .val (.int (f4 p2 (nar .boolean (1 : Int32)) p0)), .val (.int (((f0_z0 p0 p1) + (f0_z1 p0 p1)) + (f0_z2 p0 p1))), .val (.int (f0_z3 p0 p1)), .unset, .unset] [(.int (0 : Int32))])) (fun _ k => XS.iconst X17.here hx rfl (hb hby at_120) k) ?_
      rw [show (f0_z4 p0 p1) = (0 : Int32) from by unfold f0_z4; rw [if_neg hc20]] at Kj19
      exact Kj19 _ _ X17 N17 e17
  intro T19 L19 X19 N19 e19
  refine go (B := T19.setTop (mkF m 123 #[.val (.int p0), .val (.int p1), .val (.int p2), .val (.ref b1), .val (.ref b3), .val (.ref b5), .val (.int (f4 p1 (nar .boolean (1 : Int32)) p0)), .val (.int (f4 p1 (nar .boolean (0 : Int32)) p0)), .val (.int (f4 p0 (nar .boolean (0 : Int32)) p1)), .val (.int (f4 p2 (nar .boolean (1 : Int32)) p0)), .val (.int (((f0_z0 p0 p1) + (f0_z1 p0 p1)) + (f0_z2 p0 p1))), .val (.int (f0_z3 p0 p1)), .val (.int (f0_z4 p0 p1)), .unset] [])) (fun _ k => XS.istore X19.here hx rfl (hb hby at_121) rfl (l' := #[.val (.int p0), .val (.int p1), .val (.int p2), .val (.ref b1), .val (.ref b3), .val (.ref b5), .val (.int (f4 p1 (nar .boolean (1 : Int32)) p0)), .val (.int (f4 p1 (nar .boolean (0 : Int32)) p0)), .val (.int (f4 p0 (nar .boolean (0 : Int32)) p1)), .val (.int (f4 p2 (nar .boolean (1 : Int32)) p0)), .val (.int (((f0_z0 p0 p1) + (f0_z1 p0 p1)) + (f0_z2 p0 p1))), .val (.int (f0_z3 p0 p1)), .val (.int (f0_z4 p0 p1)), .unset]) rfl k) ?_
  refine go (B := T19.setTop (mkF m 125 #[.val (.int p0), .val (.int p1), .val (.int p2), .val (.ref b1), .val (.ref b3), .val (.ref b5), .val (.int (f4 p1 (nar .boolean (1 : Int32)) p0)), .val (.int (f4 p1 (nar .boolean (0 : Int32)) p0)), .val (.int (f4 p0 (nar .boolean (0 : Int32)) p1)), .val (.int (f4 p2 (nar .boolean (1 : Int32)) p0)), .val (.int (((f0_z0 p0 p1) + (f0_z1 p0 p1)) + (f0_z2 p0 p1))), .val (.int (f0_z3 p0 p1)), .val (.int (f0_z4 p0 p1)), .unset] [(.int (f4 p1 (nar .boolean (1 : Int32)) p0))])) (fun _ k => XS.iload X19.here hx rfl (hb hby at_123) rfl k) ?_
  suffices Kj21 : ∀ (T21 : State) (L21 : List Loc), Stand p l e room_1 s m #[(.int p0), (.int p1), (.int p2)] below meth c T21 L21 3 6 → Fr n0 L21 → T21.heap = T6.heap → Go p.tables e below F (T21.setTop (mkF m 143 #[.val (.int p0), .val (.int p1), .val (.int p2), .val (.ref b1), .val (.ref b3), .val (.ref b5), .val (.int (f4 p1 (nar .boolean (1 : Int32)) p0)), .val (.int (f4 p1 (nar .boolean (0 : Int32)) p0)), .val (.int (f4 p0 (nar .boolean (0 : Int32)) p1)), .val (.int (f4 p2 (nar .boolean (1 : Int32)) p0)), .val (.int (((f0_z0 p0 p1) + (f0_z1 p0 p1)) + (f0_z2 p0 p1))), .val (.int (f0_z3 p0 p1)), .val (.int (f0_z4 p0 p1)), .unset] [(.int (f0_z5 p0 p1 p2))])) by
    by_cases hc22 : (f4 p1 (nar .boolean (1 : Int32)) p0) = (0 : Int32)
    · refine go (B := T19.setTop (mkF m 138 #[.val (.int p0), .val (.int p1), .val (.int p2), .val (.ref b1), .val (.ref b3), .val (.ref b5), .val (.int (f4 p1 (nar .boolean (1 : Int32)) p0)), .val (.int (f4 p1 (nar .boolean (0 : Int32)) p0)), .val (.int (f4 p0 (nar .boolean (0 : Int32)) p1)), .val (.int (f4 p2 (nar .boolean (1 : Int32)) p0)), .val (.int (((f0_z0 p0 p1) + (f0_z1 p0 p1)) + (f0_z2 p0 p1))), .val (.int (f0_z3 p0 p1)), .val (.int (f0_z4 p0 p1)), .unset] [])) (fun _ k => XS.ifYes X19.here hx rfl (pc0 := 125) (pc' := 138) rfl (hb hby at_125) rfl ((if0 _ _).trans (teq hc22).1) (by decide) (by decide) k) ?_
      refine go (B := T19.setTop (mkF m 139 #[.val (.int p0), .val (.int p1), .val (.int p2), .val (.ref b1), .val (.ref b3), .val (.ref b5), .val (.int (f4 p1 (nar .boolean (1 : Int32)) p0)), .val (.int (f4 p1 (nar .boolean (0 : Int32)) p0)), .val (.int (f4 p0 (nar .boolean (0 : Int32)) p1)), .val (.int (f4 p2 (nar .boolean (1 : Int32)) p0)), .val (.int (((f0_z0 p0 p1) + (f0_z1 p0 p1)) + (f0_z2 p0 p1))), .val (.int (f0_z3 p0 p1)), .val (.int (f0_z4 p0 p1)), .unset] [(.int (1 : Int32))])) (fun _ k => XS.iconst X19.here hx rfl (hb hby at_138) k) ?_
      refine go (B := T19.setTop (mkF m 143 #[.val (.int p0), .val (.int p1), .val (.int p2), .val (.ref b1), .val (.ref b3), .val (.ref b5), .val (.int (f4 p1 (nar .boolean (1 : Int32)) p0)), .val (.int (f4 p1 (nar .boolean (0 : Int32)) p0)), .val (.int (f4 p0 (nar .boolean (0 : Int32)) p1)), .val (.int (f4 p2 (nar .boolean (1 : Int32)) p0)), .val (.int (((f0_z0 p0 p1) + (f0_z1 p0 p1)) + (f0_z2 p0 p1))), .val (.int (f0_z3 p0 p1)), .val (.int (f0_z4 p0 p1)), .unset] [(.int (1 : Int32))])) (fun _ k => XS.goto X19.here hx rfl (pc0 := 139) (pc' := 143) rfl (hb hby at_139) (by decide) (by decide) k) ?_
      rw [show (f0_z5 p0 p1 p2) = (1 : Int32) from by unfold f0_z5; rw [if_pos hc22]] at Kj21
      exact Kj21 _ _ X19 N19 e19
    · refine go (B := T19.setTop (mkF m 128 #[.val (.int p0), .val (.int p1), .val (.int p2), .val (.ref b1), .val (.ref b3), .val (.ref b5), .val (.int (f4 p1 (nar .boolean (1 : Int32)) p0)), .val (.int (f4 p1 (nar .boolean (0 : Int32)) p0)), .val (.int (f4 p0 (nar .boolean (0 : Int32)) p1)), .val (.int (f4 p2 (nar .boolean (1 : Int32)) p0)), .val (.int (((f0_z0 p0 p1) + (f0_z1 p0 p1)) + (f0_z2 p0 p1))), .val (.int (f0_z3 p0 p1)), .val (.int (f0_z4 p0 p1)), .unset] [])) (fun _ k => XS.ifNo X19.here hx rfl (hb hby at_125) rfl ((if0 _ _).trans (feq hc22).1) k) ?_
      refine go (B := T19.setTop (mkF m 129 #[.val (.int p0), .val (.int p1), .val (.int p2), .val (.ref b1), .val (.ref b3), .val (.ref b5), .val (.int (f4 p1 (nar .boolean (1 : Int32)) p0)), .val (.int (f4 p1 (nar .boolean (0 : Int32)) p0)), .val (.int (f4 p0 (nar .boolean (0 : Int32)) p1)), .val (.int (f4 p2 (nar .boolean (1 : Int32)) p0)), .val (.int (((f0_z0 p0 p1) + (f0_z1 p0 p1)) + (f0_z2 p0 p1))), .val (.int (f0_z3 p0 p1)), .val (.int (f0_z4 p0 p1)), .unset] [(.int p1)])) (fun _ k => XS.iloadN X19.here hx rfl (hb hby at_128) rfl k) ?_
      refine go (B := T19.setTop (mkF m 130 #[.val (.int p0), .val (.int p1), .val (.int p2), .val (.ref b1), .val (.ref b3), .val (.ref b5), .val (.int (f4 p1 (nar .boolean (1 : Int32)) p0)), .val (.int (f4 p1 (nar .boolean (0 : Int32)) p0)), .val (.int (f4 p0 (nar .boolean (0 : Int32)) p1)), .val (.int (f4 p2 (nar .boolean (1 : Int32)) p0)), .val (.int (((f0_z0 p0 p1) + (f0_z1 p0 p1)) + (f0_z2 p0 p1))), .val (.int (f0_z3 p0 p1)), .val (.int (f0_z4 p0 p1)), .unset] [(.int p2), (.int p1)])) (fun _ k => XS.iloadN X19.here hx rfl (hb hby at_129) rfl k) ?_
      by_cases hc23 : p2 < p1
      · refine go (B := T19.setTop (mkF m 138 #[.val (.int p0), .val (.int p1), .val (.int p2), .val (.ref b1), .val (.ref b3), .val (.ref b5), .val (.int (f4 p1 (nar .boolean (1 : Int32)) p0)), .val (.int (f4 p1 (nar .boolean (0 : Int32)) p0)), .val (.int (f4 p0 (nar .boolean (0 : Int32)) p1)), .val (.int (f4 p2 (nar .boolean (1 : Int32)) p0)), .val (.int (((f0_z0 p0 p1) + (f0_z1 p0 p1)) + (f0_z2 p0 p1))), .val (.int (f0_z3 p0 p1)), .val (.int (f0_z4 p0 p1)), .unset] [])) (fun _ k => XS.icmpYes X19.here hx rfl (pc0 := 130) (pc' := 138) rfl (hb hby at_130) rfl (tlt hc23).2.2.1 (by decide) (by decide) k) ?_
        refine go (B := T19.setTop (mkF m 139 #[.val (.int p0), .val (.int p1), .val (.int p2), .val (.ref b1), .val (.ref b3), .val (.ref b5), .val (.int (f4 p1 (nar .boolean (1 : Int32)) p0)), .val (.int (f4 p1 (nar .boolean (0 : Int32)) p0)), .val (.int (f4 p0 (nar .boolean (0 : Int32)) p1)), .val (.int (f4 p2 (nar .boolean (1 : Int32)) p0)), .val (.int (((f0_z0 p0 p1) + (f0_z1 p0 p1)) + (f0_z2 p0 p1))), .val (.int (f0_z3 p0 p1)), .val (.int (f0_z4 p0 p1)), .unset] [(.int (1 : Int32))])) (fun _ k => XS.iconst X19.here hx rfl (hb hby at_138) k) ?_
        refine go (B := T19.setTop (mkF m 143 #[.val (.int p0), .val (.int p1), .val (.int p2), .val (.ref b1), .val (.ref b3), .val (.ref b5), .val (.int (f4 p1 (nar .boolean (1 : Int32)) p0)), .val (.int (f4 p1 (nar .boolean (0 : Int32)) p0)), .val (.int (f4 p0 (nar .boolean (0 : Int32)) p1)), .val (.int (f4 p2 (nar .boolean (1 : Int32)) p0)), .val (.int (((f0_z0 p0 p1) + (f0_z1 p0 p1)) + (f0_z2 p0 p1))), .val (.int (f0_z3 p0 p1)), .val (.int (f0_z4 p0 p1)), .unset] [(.int (1 : Int32))])) (fun _ k => XS.goto X19.here hx rfl (pc0 := 139) (pc' := 143) rfl (hb hby at_139) (by decide) (by decide) k) ?_
        rw [show (f0_z5 p0 p1 p2) = (1 : Int32) from by unfold f0_z5; rw [if_neg hc22, if_pos hc23]] at Kj21
        exact Kj21 _ _ X19 N19 e19
      · refine go (B := T19.setTop (mkF m 133 #[.val (.int p0), .val (.int p1), .val (.int p2), .val (.ref b1), .val (.ref b3), .val (.ref b5), .val (.int (f4 p1 (nar .boolean (1 : Int32)) p0)), .val (.int (f4 p1 (nar .boolean (0 : Int32)) p0)), .val (.int (f4 p0 (nar .boolean (0 : Int32)) p1)), .val (.int (f4 p2 (nar .boolean (1 : Int32)) p0)), .val (.int (((f0_z0 p0 p1) + (f0_z1 p0 p1)) + (f0_z2 p0 p1))), .val (.int (f0_z3 p0 p1)), .val (.int (f0_z4 p0 p1)), .unset] [])) (fun _ k => XS.icmpNo X19.here hx rfl (hb hby at_130) rfl (flt hc23).2.2.1 k) ?_
        refine go (B := T19.setTop (mkF m 135 #[.val (.int p0), .val (.int p1), .val (.int p2), .val (.ref b1), .val (.ref b3), .val (.ref b5), .val (.int (f4 p1 (nar .boolean (1 : Int32)) p0)), .val (.int (f4 p1 (nar .boolean (0 : Int32)) p0)), .val (.int (f4 p0 (nar .boolean (0 : Int32)) p1)), .val (.int (f4 p2 (nar .boolean (1 : Int32)) p0)), .val (.int (((f0_z0 p0 p1) + (f0_z1 p0 p1)) + (f0_z2 p0 p1))), .val (.int (f0_z3 p0 p1)), .val (.int (f0_z4 p0 p1)), .unset] [(.int (f4 p2 (nar .boolean (1 : Int32)) p0))])) (fun _ k => XS.iload X19.here hx rfl (hb hby at_133) rfl k) ?_
        by_cases hc24 : (f4 p2 (nar .boolean (1 : Int32)) p0) = (0 : Int32)
        · refine go (B := T19.setTop (mkF m 142 #[.val (.int p0), .val (.int p1), .val (.int p2), .val (.ref b1), .val (.ref b3), .val (.ref b5), .val (.int (f4 p1 (nar .boolean (1 : Int32)) p0)), .val (.int (f4 p1 (nar .boolean (0 : Int32)) p0)), .val (.int (f4 p0 (nar .boolean (0 : Int32)) p1)), .val (.int (f4 p2 (nar .boolean (1 : Int32)) p0)), .val (.int (((f0_z0 p0 p1) + (f0_z1 p0 p1)) + (f0_z2 p0 p1))), .val (.int (f0_z3 p0 p1)), .val (.int (f0_z4 p0 p1)), .unset] [])) (fun _ k => XS.ifYes X19.here hx rfl (pc0 := 135) (pc' := 142) rfl (hb hby at_135) rfl ((if0 _ _).trans (teq hc24).1) (by decide) (by decide) k) ?_
          refine go (B := T19.setTop (mkF m 143 #[.val (.int p0), .val (.int p1), .val (.int p2), .val (.ref b1), .val (.ref b3), .val (.ref b5), .val (.int (f4 p1 (nar .boolean (1 : Int32)) p0)), .val (.int (f4 p1 (nar .boolean (0 : Int32)) p0)), .val (.int (f4 p0 (nar .boolean (0 : Int32)) p1)), .val (.int (f4 p2 (nar .boolean (1 : Int32)) p0)), .val (.int (((f0_z0 p0 p1) + (f0_z1 p0 p1)) + (f0_z2 p0 p1))), .val (.int (f0_z3 p0 p1)), .val (.int (f0_z4 p0 p1)), .unset] [(.int (0 : Int32))])) (fun _ k => XS.iconst X19.here hx rfl (hb hby at_142) k) ?_
          rw [show (f0_z5 p0 p1 p2) = (0 : Int32) from by unfold f0_z5; rw [if_neg hc22, if_neg hc23, if_pos hc24]] at Kj21
          exact Kj21 _ _ X19 N19 e19
        · refine go (B := T19.setTop (mkF m 138 #[.val (.int p0), .val (.int p1), .val (.int p2), .val (.ref b1), .val (.ref b3), .val (.ref b5), .val (.int (f4 p1 (nar .boolean (1 : Int32)) p0)), .val (.int (f4 p1 (nar .boolean (0 : Int32)) p0)), .val (.int (f4 p0 (nar .boolean (0 : Int32)) p1)), .val (.int (f4 p2 (nar .boolean (1 : Int32)) p0)), .val (.int (((f0_z0 p0 p1) + (f0_z1 p0 p1)) + (f0_z2 p0 p1))), .val (.int (f0_z3 p0 p1)), .val (.int (f0_z4 p0 p1)), .unset] [])) (fun _ k => XS.ifNo X19.here hx rfl (hb hby at_135) rfl ((if0 _ _).trans (feq hc24).1) k) ?_
          refine go (B := T19.setTop (mkF m 139 #[.val (.int p0), .val (.int p1), .val (.int p2), .val (.ref b1), .val (.ref b3), .val (.ref b5), .val (.int (f4 p1 (nar .boolean (1 : Int32)) p0)), .val (.int (f4 p1 (nar .boolean (0 : Int32)) p0)), .val (.int (f4 p0 (nar .boolean (0 : Int32)) p1)), .val (.int (f4 p2 (nar .boolean (1 : Int32)) p0)), .val (.int (((f0_z0 p0 p1) + (f0_z1 p0 p1)) + (f0_z2 p0 p1))), .val (.int (f0_z3 p0 p1)), .val (.int (f0_z4 p0 p1)), .unset] [(.int (1 : Int32))])) (fun _ k => XS.iconst X19.here hx rfl (hb hby at_138) k) ?_
          refine go (B := T19.setTop (mkF m 143 #[.val (.int p0), .val (.int p1), .val (.int p2), .val (.ref b1), .val (.ref b3), .val (.ref b5), .val (.int (f4 p1 (nar .boolean (1 : Int32)) p0)), .val (.int (f4 p1 (nar .boolean (0 : Int32)) p0)), .val (.int (f4 p0 (nar .boolean (0 : Int32)) p1)), .val (.int (f4 p2 (nar .boolean (1 : Int32)) p0)), .val (.int (((f0_z0 p0 p1) + (f0_z1 p0 p1)) + (f0_z2 p0 p1))), .val (.int (f0_z3 p0 p1)), .val (.int (f0_z4 p0 p1)), .unset] [(.int (1 : Int32))])) (fun _ k => XS.goto X19.here hx rfl (pc0 := 139) (pc' := 143) rfl (hb hby at_139) (by decide) (by decide) k) ?_
          rw [show (f0_z5 p0 p1 p2) = (1 : Int32) from by unfold f0_z5; rw [if_neg hc22, if_neg hc23, if_neg hc24]] at Kj21
          exact Kj21 _ _ X19 N19 e19
  intro T21 L21 X21 N21 e21
  refine go (B := T21.setTop (mkF m 145 #[.val (.int p0), .val (.int p1), .val (.int p2), .val (.ref b1), .val (.ref b3), .val (.ref b5), .val (.int (f4 p1 (nar .boolean (1 : Int32)) p0)), .val (.int (f4 p1 (nar .boolean (0 : Int32)) p0)), .val (.int (f4 p0 (nar .boolean (0 : Int32)) p1)), .val (.int (f4 p2 (nar .boolean (1 : Int32)) p0)), .val (.int (((f0_z0 p0 p1) + (f0_z1 p0 p1)) + (f0_z2 p0 p1))), .val (.int (f0_z3 p0 p1)), .val (.int (f0_z4 p0 p1)), .val (.int (f0_z5 p0 p1 p2))] [])) (fun _ k => XS.istore X21.here hx rfl (hb hby at_143) rfl (l' := #[.val (.int p0), .val (.int p1), .val (.int p2), .val (.ref b1), .val (.ref b3), .val (.ref b5), .val (.int (f4 p1 (nar .boolean (1 : Int32)) p0)), .val (.int (f4 p1 (nar .boolean (0 : Int32)) p0)), .val (.int (f4 p0 (nar .boolean (0 : Int32)) p1)), .val (.int (f4 p2 (nar .boolean (1 : Int32)) p0)), .val (.int (((f0_z0 p0 p1) + (f0_z1 p0 p1)) + (f0_z2 p0 p1))), .val (.int (f0_z3 p0 p1)), .val (.int (f0_z4 p0 p1)), .val (.int (f0_z5 p0 p1 p2))]) rfl k) ?_
  refine go (B := T21.setTop (mkF m 147 #[.val (.int p0), .val (.int p1), .val (.int p2), .val (.ref b1), .val (.ref b3), .val (.ref b5), .val (.int (f4 p1 (nar .boolean (1 : Int32)) p0)), .val (.int (f4 p1 (nar .boolean (0 : Int32)) p0)), .val (.int (f4 p0 (nar .boolean (0 : Int32)) p1)), .val (.int (f4 p2 (nar .boolean (1 : Int32)) p0)), .val (.int (((f0_z0 p0 p1) + (f0_z1 p0 p1)) + (f0_z2 p0 p1))), .val (.int (f0_z3 p0 p1)), .val (.int (f0_z4 p0 p1)), .val (.int (f0_z5 p0 p1 p2))] [(.int (f0_z3 p0 p1))])) (fun _ k => XS.iload X21.here hx rfl (hb hby at_145) rfl k) ?_
  by_cases hc25 : (f0_z3 p0 p1) = (0 : Int32)
  · refine go (B := T21.setTop (mkF m 164 #[.val (.int p0), .val (.int p1), .val (.int p2), .val (.ref b1), .val (.ref b3), .val (.ref b5), .val (.int (f4 p1 (nar .boolean (1 : Int32)) p0)), .val (.int (f4 p1 (nar .boolean (0 : Int32)) p0)), .val (.int (f4 p0 (nar .boolean (0 : Int32)) p1)), .val (.int (f4 p2 (nar .boolean (1 : Int32)) p0)), .val (.int (((f0_z0 p0 p1) + (f0_z1 p0 p1)) + (f0_z2 p0 p1))), .val (.int (f0_z3 p0 p1)), .val (.int (f0_z4 p0 p1)), .val (.int (f0_z5 p0 p1 p2))] [])) (fun _ k => XS.ifYes X21.here hx rfl (pc0 := 147) (pc' := 164) rfl (hb hby at_147) rfl ((if0 _ _).trans (teq hc25).1) (by decide) (by decide) k) ?_
    refine go (B := T21.setTop (mkF m 165 #[.val (.int p0), .val (.int p1), .val (.int p2), .val (.ref b1), .val (.ref b3), .val (.ref b5), .val (.int (f4 p1 (nar .boolean (1 : Int32)) p0)), .val (.int (f4 p1 (nar .boolean (0 : Int32)) p0)), .val (.int (f4 p0 (nar .boolean (0 : Int32)) p1)), .val (.int (f4 p2 (nar .boolean (1 : Int32)) p0)), .val (.int (((f0_z0 p0 p1) + (f0_z1 p0 p1)) + (f0_z2 p0 p1))), .val (.int (f0_z3 p0 p1)), .val (.int (f0_z4 p0 p1)), .val (.int (f0_z5 p0 p1 p2))] [(.int (0 : Int32))])) (fun _ k => XS.iconst X21.here hx rfl (hb hby at_164) k) ?_
    have r26 : (f0 p0 p1 p2) = (0 : Int32) := by unfold f0; rw [if_pos hc25]
    exact end_nar X21 hx Bd.notSynchronized (t := .boolean) Bd.returns (by simp) (hb hby at_165) hF e21 (by decide) (by decide) ⟨(congrArg (fun z => some (Value.int z)) (r26.symm.trans (own_law p0 p1 p2))), N21⟩
  · refine go (B := T21.setTop (mkF m 150 #[.val (.int p0), .val (.int p1), .val (.int p2), .val (.ref b1), .val (.ref b3), .val (.ref b5), .val (.int (f4 p1 (nar .boolean (1 : Int32)) p0)), .val (.int (f4 p1 (nar .boolean (0 : Int32)) p0)), .val (.int (f4 p0 (nar .boolean (0 : Int32)) p1)), .val (.int (f4 p2 (nar .boolean (1 : Int32)) p0)), .val (.int (((f0_z0 p0 p1) + (f0_z1 p0 p1)) + (f0_z2 p0 p1))), .val (.int (f0_z3 p0 p1)), .val (.int (f0_z4 p0 p1)), .val (.int (f0_z5 p0 p1 p2))] [])) (fun _ k => XS.ifNo X21.here hx rfl (hb hby at_147) rfl ((if0 _ _).trans (feq hc25).1) k) ?_
    refine go (B := T21.setTop (mkF m 152 #[.val (.int p0), .val (.int p1), .val (.int p2), .val (.ref b1), .val (.ref b3), .val (.ref b5), .val (.int (f4 p1 (nar .boolean (1 : Int32)) p0)), .val (.int (f4 p1 (nar .boolean (0 : Int32)) p0)), .val (.int (f4 p0 (nar .boolean (0 : Int32)) p1)), .val (.int (f4 p2 (nar .boolean (1 : Int32)) p0)), .val (.int (((f0_z0 p0 p1) + (f0_z1 p0 p1)) + (f0_z2 p0 p1))), .val (.int (f0_z3 p0 p1)), .val (.int (f0_z4 p0 p1)), .val (.int (f0_z5 p0 p1 p2))] [(.int (f0_z4 p0 p1))])) (fun _ k => XS.iload X21.here hx rfl (hb hby at_150) rfl k) ?_
    by_cases hc27 : (f0_z4 p0 p1) = (0 : Int32)
    · refine go (B := T21.setTop (mkF m 164 #[.val (.int p0), .val (.int p1), .val (.int p2), .val (.ref b1), .val (.ref b3), .val (.ref b5), .val (.int (f4 p1 (nar .boolean (1 : Int32)) p0)), .val (.int (f4 p1 (nar .boolean (0 : Int32)) p0)), .val (.int (f4 p0 (nar .boolean (0 : Int32)) p1)), .val (.int (f4 p2 (nar .boolean (1 : Int32)) p0)), .val (.int (((f0_z0 p0 p1) + (f0_z1 p0 p1)) + (f0_z2 p0 p1))), .val (.int (f0_z3 p0 p1)), .val (.int (f0_z4 p0 p1)), .val (.int (f0_z5 p0 p1 p2))] [])) (fun _ k => XS.ifYes X21.here hx rfl (pc0 := 152) (pc' := 164) rfl (hb hby at_152) rfl ((if0 _ _).trans (teq hc27).1) (by decide) (by decide) k) ?_
      refine go (B := T21.setTop (mkF m 165 #[.val (.int p0), .val (.int p1), .val (.int p2), .val (.ref b1), .val (.ref b3), .val (.ref b5), .val (.int (f4 p1 (nar .boolean (1 : Int32)) p0)), .val (.int (f4 p1 (nar .boolean (0 : Int32)) p0)), .val (.int (f4 p0 (nar .boolean (0 : Int32)) p1)), .val (.int (f4 p2 (nar .boolean (1 : Int32)) p0)), .val (.int (((f0_z0 p0 p1) + (f0_z1 p0 p1)) + (f0_z2 p0 p1))), .val (.int (f0_z3 p0 p1)), .val (.int (f0_z4 p0 p1)), .val (.int (f0_z5 p0 p1 p2))] [(.int (0 : Int32))])) (fun _ k => XS.iconst X21.here hx rfl (hb hby at_164) k) ?_
      have r28 : (f0 p0 p1 p2) = (0 : Int32) := by unfold f0; rw [if_neg hc25, if_pos hc27]
      exact end_nar X21 hx Bd.notSynchronized (t := .boolean) Bd.returns (by simp) (hb hby at_165) hF e21 (by decide) (by decide) ⟨(congrArg (fun z => some (Value.int z)) (r28.symm.trans (own_law p0 p1 p2))), N21⟩
    · refine go (B := T21.setTop (mkF m 155 #[.val (.int p0), .val (.int p1), .val (.int p2), .val (.ref b1), .val (.ref b3), .val (.ref b5), .val (.int (f4 p1 (nar .boolean (1 : Int32)) p0)), .val (.int (f4 p1 (nar .boolean (0 : Int32)) p0)), .val (.int (f4 p0 (nar .boolean (0 : Int32)) p1)), .val (.int (f4 p2 (nar .boolean (1 : Int32)) p0)), .val (.int (((f0_z0 p0 p1) + (f0_z1 p0 p1)) + (f0_z2 p0 p1))), .val (.int (f0_z3 p0 p1)), .val (.int (f0_z4 p0 p1)), .val (.int (f0_z5 p0 p1 p2))] [])) (fun _ k => XS.ifNo X21.here hx rfl (hb hby at_152) rfl ((if0 _ _).trans (feq hc27).1) k) ?_
      refine go (B := T21.setTop (mkF m 157 #[.val (.int p0), .val (.int p1), .val (.int p2), .val (.ref b1), .val (.ref b3), .val (.ref b5), .val (.int (f4 p1 (nar .boolean (1 : Int32)) p0)), .val (.int (f4 p1 (nar .boolean (0 : Int32)) p0)), .val (.int (f4 p0 (nar .boolean (0 : Int32)) p1)), .val (.int (f4 p2 (nar .boolean (1 : Int32)) p0)), .val (.int (((f0_z0 p0 p1) + (f0_z1 p0 p1)) + (f0_z2 p0 p1))), .val (.int (f0_z3 p0 p1)), .val (.int (f0_z4 p0 p1)), .val (.int (f0_z5 p0 p1 p2))] [(.int (f0_z5 p0 p1 p2))])) (fun _ k => XS.iload X21.here hx rfl (hb hby at_155) rfl k) ?_
      by_cases hc29 : (f0_z5 p0 p1 p2) = (0 : Int32)
      · refine go (B := T21.setTop (mkF m 164 #[.val (.int p0), .val (.int p1), .val (.int p2), .val (.ref b1), .val (.ref b3), .val (.ref b5), .val (.int (f4 p1 (nar .boolean (1 : Int32)) p0)), .val (.int (f4 p1 (nar .boolean (0 : Int32)) p0)), .val (.int (f4 p0 (nar .boolean (0 : Int32)) p1)), .val (.int (f4 p2 (nar .boolean (1 : Int32)) p0)), .val (.int (((f0_z0 p0 p1) + (f0_z1 p0 p1)) + (f0_z2 p0 p1))), .val (.int (f0_z3 p0 p1)), .val (.int (f0_z4 p0 p1)), .val (.int (f0_z5 p0 p1 p2))] [])) (fun _ k => XS.ifYes X21.here hx rfl (pc0 := 157) (pc' := 164) rfl (hb hby at_157) rfl ((if0 _ _).trans (teq hc29).1) (by decide) (by decide) k) ?_
        refine go (B := T21.setTop (mkF m 165 #[.val (.int p0), .val (.int p1), .val (.int p2), .val (.ref b1), .val (.ref b3), .val (.ref b5), .val (.int (f4 p1 (nar .boolean (1 : Int32)) p0)), .val (.int (f4 p1 (nar .boolean (0 : Int32)) p0)), .val (.int (f4 p0 (nar .boolean (0 : Int32)) p1)), .val (.int (f4 p2 (nar .boolean (1 : Int32)) p0)), .val (.int (((f0_z0 p0 p1) + (f0_z1 p0 p1)) + (f0_z2 p0 p1))), .val (.int (f0_z3 p0 p1)), .val (.int (f0_z4 p0 p1)), .val (.int (f0_z5 p0 p1 p2))] [(.int (0 : Int32))])) (fun _ k => XS.iconst X21.here hx rfl (hb hby at_164) k) ?_
        have r30 : (f0 p0 p1 p2) = (0 : Int32) := by unfold f0; rw [if_neg hc25, if_neg hc27, if_pos hc29]
        exact end_nar X21 hx Bd.notSynchronized (t := .boolean) Bd.returns (by simp) (hb hby at_165) hF e21 (by decide) (by decide) ⟨(congrArg (fun z => some (Value.int z)) (r30.symm.trans (own_law p0 p1 p2))), N21⟩
      · refine go (B := T21.setTop (mkF m 160 #[.val (.int p0), .val (.int p1), .val (.int p2), .val (.ref b1), .val (.ref b3), .val (.ref b5), .val (.int (f4 p1 (nar .boolean (1 : Int32)) p0)), .val (.int (f4 p1 (nar .boolean (0 : Int32)) p0)), .val (.int (f4 p0 (nar .boolean (0 : Int32)) p1)), .val (.int (f4 p2 (nar .boolean (1 : Int32)) p0)), .val (.int (((f0_z0 p0 p1) + (f0_z1 p0 p1)) + (f0_z2 p0 p1))), .val (.int (f0_z3 p0 p1)), .val (.int (f0_z4 p0 p1)), .val (.int (f0_z5 p0 p1 p2))] [])) (fun _ k => XS.ifNo X21.here hx rfl (hb hby at_157) rfl ((if0 _ _).trans (feq hc29).1) k) ?_
        refine go (B := T21.setTop (mkF m 161 #[.val (.int p0), .val (.int p1), .val (.int p2), .val (.ref b1), .val (.ref b3), .val (.ref b5), .val (.int (f4 p1 (nar .boolean (1 : Int32)) p0)), .val (.int (f4 p1 (nar .boolean (0 : Int32)) p0)), .val (.int (f4 p0 (nar .boolean (0 : Int32)) p1)), .val (.int (f4 p2 (nar .boolean (1 : Int32)) p0)), .val (.int (((f0_z0 p0 p1) + (f0_z1 p0 p1)) + (f0_z2 p0 p1))), .val (.int (f0_z3 p0 p1)), .val (.int (f0_z4 p0 p1)), .val (.int (f0_z5 p0 p1 p2))] [(.int (1 : Int32))])) (fun _ k => XS.iconst X21.here hx rfl (hb hby at_160) k) ?_
        refine go (B := T21.setTop (mkF m 165 #[.val (.int p0), .val (.int p1), .val (.int p2), .val (.ref b1), .val (.ref b3), .val (.ref b5), .val (.int (f4 p1 (nar .boolean (1 : Int32)) p0)), .val (.int (f4 p1 (nar .boolean (0 : Int32)) p0)), .val (.int (f4 p0 (nar .boolean (0 : Int32)) p1)), .val (.int (f4 p2 (nar .boolean (1 : Int32)) p0)), .val (.int (((f0_z0 p0 p1) + (f0_z1 p0 p1)) + (f0_z2 p0 p1))), .val (.int (f0_z3 p0 p1)), .val (.int (f0_z4 p0 p1)), .val (.int (f0_z5 p0 p1 p2))] [(.int (1 : Int32))])) (fun _ k => XS.goto X21.here hx rfl (pc0 := 161) (pc' := 165) rfl (hb hby at_161) (by decide) (by decide) k) ?_
        have r31 : (f0 p0 p1 p2) = (1 : Int32) := by unfold f0; rw [if_neg hc25, if_neg hc27, if_neg hc29]
        exact end_nar X21 hx Bd.notSynchronized (t := .boolean) Bd.returns (by simp) (hb hby at_165) hF e21 (by decide) (by decide) ⟨(congrArg (fun z => some (Value.int z)) (r31.symm.trans (own_law p0 p1 p2))), N21⟩
set_option maxRecDepth 65536 in
set_option maxHeartbeats 40000000 in
theorem comes_1 {Post : Tables → Env → Array Value → State → Outcome → State → Prop} (hpost : ∀ tb e args s v u, (limb_1_1.after args s (.returned v) u = true ∧ limb_1_2.after args s (.returned v) u = true ∧ True) → FrameEnd s (.returned v) u (Jvm.fieldLocs frame_1_writes args s ++ Jvm.arrayLocs frame_1_arrays args s ++ Jvm.staticLocs frame_1_statics s) 16 128 → Post tb e args s (.returned v) u) :
    ArmFor flags0 classFile x code maxLocals ret World_1 tables_1 room_1 Calls_1 rest_1 Pre_1 Post := by
  intro l hfl _ _ p e ha hc hk s m args below hf hA hF happ hP
  obtain ⟨hcalls, hrest, hpre⟩ := hP
  obtain ⟨-, -, -, hnamed, -, -, -, hat⟩ := (Spec.applies_iff hf).mp happ
  obtain ⟨hg, hn⟩ := and_e (Cond.before_iff.mp (show (Jvm.Cond.and given_1 narrow_1).before args s = true from hpre))
  obtain ⟨gg1, gg2⟩ := and_e hg
  obtain ⟨gg3, gg4⟩ := and_e gg2
  obtain ⟨gg5, gg6⟩ := and_e gg4
  obtain ⟨w0, w1, w2, rfl⟩ : ∃ w0 w1 w2 : Value, args = #[w0, w1, w2] := by
    have hs : args.size = 3 := by simpa [Cond.value, given_1] using gg1
    obtain ⟨L⟩ := args
    match L, hs with
    | [w0, w1, w2], _ => exact ⟨w0, w1, w2, rfl⟩
  have hw := fun d (hd : d ∈ tables_1) => atoms_spec (ws := Jvm.Cond.code x code maxLocals ret :: tables_1) hat d (List.mem_cons_of_mem _ hd)
  have hfit : Fit s := fun {y c} hc i hi => by
    obtain ⟨ha, rfl⟩ := Array.getElem?_eq_some_iff.mp hc
    have q := List.all_eq_true.mp ((Array.all_eq_true_iff_forall_mem.mp hF) _ (Array.getElem_mem ha)) i (List.mem_range.mpr hi)
    simpa [Array.getElem?_eq_getElem hi] using q
  obtain ⟨i0, ei0⟩ := is_v gg3
  obtain rfl : w0 = (.int i0) := Option.some.inj ei0
  obtain ⟨i1, ei1⟩ := is_v gg5
  obtain rfl : w1 = (.int i1) := Option.some.inj ei1
  obtain ⟨i2, ei2⟩ := is_v gg6
  obtain rfl : w2 = (.int i2) := Option.some.inj ei2
  obtain ⟨n, o, h1, h2, h3, _, L, rfl, ⟨rfl, N⟩, hq⟩ := rm0 l s _ hw tables_1 i0 i1 i2 s.heap s.heap.size (Nat.le_refl _)  p e ha hc hk s m _ below hf ((Spec.applies_iff_loose hf).mp happ).1 ⟨rfl, State.Warmed39.refl s, rfl⟩ trivial
  refine ⟨n, _, h1, h2, h3, hpost _ _ _ _ _ _ ⟨Cond.after_iff.mpr rfl, Cond.after_iff.mpr (eq_i res_at (Term.int_eval (1)) rfl), trivial⟩ ⟨hq.1, hq.2.1, (hq.2.2.sift fun y hy => Or.inr (N y hy)).mono (by decide) (by decide)⟩⟩
theorem main_1_1 : Claimed_1_1 := comes_1 fun _ _ _ _ _ _ h hF => ⟨h.1, hF⟩
theorem main_1_2 : Claimed_1_2 := comes_1 fun _ _ _ _ _ _ h hF => ⟨h.2.1, hF⟩
end Jvm.Pilot.@@N@@
namespace Jvm.Pilot.@@N@@
open Jvm Jvm.ClassFile Sem Op Lib Jvm.Free Jvm.Stand Jvm.Pilot.@@N@@.Jvm.D
/-! MADE BY PROGRAM (witnessworld.py) out of the Statement's table words and the real class files: 10 classes; the members and pool entries that the words name. The judged class is class 1, her method 1. -/
namespace start1
open Jvm.ClassFile
def u (s : String) : CpInfo := .utf8 (stringToUtf16 s)
/-- a pool by its gaps: so many unusable entries, then the entry; so many at the end -/
def gap : Nat → List CpInfo → List CpInfo
  | 0, r => r
  | n + 1, r => .unusable :: gap n r
def poolList (es : List (Nat × CpInfo)) (last : Nat) : List CpInfo := es.foldr (fun e r => gap e.1 (e.2 :: r)) (gap last [])
def pool (es : List (Nat × CpInfo)) (last : Nat) : Array CpInfo := ⟨poolList es last⟩
def fileOf (pool : Array CpInfo) (this : Nat) (attrs : Array Attribute := #[]) (ms : Array MethodInfo := #[]) (fl : Nat := 33) (sup : Nat := 0) (ifs : Array Nat := #[]) (fds : Array FieldInfo := #[]) : ClassFile where
  minorVersion := 0
  majorVersion := 65
  constantPool := pool
  accessFlags := fl
  thisClass := this
  superClass := sup
  interfaces := ifs
  fields := fds
  methods := ms
  attributes := attrs
def plain (name : String) (sup : Option ClassId) : Class where
  name := name
  kind := .ordinary
  loader := none
  accessFlags := 33
  super := sup
  interfaces := #[]
  cf := none
  fields := #[]
  methods := #[]
  instanceTypes := #[]
  staticTypes := #[]
  resolved := #[]
  callSites := []
  init := .initialized
  statics := none
  mirror := none

def pool0 : Array CpInfo := pool [(5, u "<init>"), (0, u "()V"), (1, .class_ 10), (1, u "java/lang/Object")] 113

def k0c0 : Code := { maxStack := 0, maxLocals := 1, code := object_method_1_code, exceptionTable := #[], attributes := #[] }
def k0m0 : Method := { name := "<init>", desc := "()V", sig := { parameters := [], returnType := none }, accessFlags := 1, code := some k0c0 }
/-- java/lang/Object -/
def k0 : Class := { plain "java/lang/Object" none with
  accessFlags := 33
  interfaces := #[]
  cf := some (fileOf pool0 8 #[] #[{ accessFlags := 1, nameIndex := 5, descriptorIndex := 6, attributes := #[] }] 33 0 #[] #[])
  fields := #[]
  methods := #[k0m0]
  instanceTypes := #[]
  staticTypes := #[]
  resolved := Array.replicate 124 none
  statics := none }

def pool1 : Array CpInfo := pool [(2, .class_ 4), (1, u "java/lang/Object"), (0, u "<init>"), (0, u "()V"), (0, .class_ 8), (0, u "com/example/saltwake/saltwake/voyage/JellyfishCard$Challenge"), (0, .methodref 7 10), (0, .nameAndType 5 11), (0, u "(ZI)V"), (0, .methodref 7 13), (0, .nameAndType 14 15), (0, u "passedBy"), (0, u "(I)Z"), (0, .class_ 17), (0, u "com/example/saltwake/saltwake/voyage/ChallengePassedByPinLaw"), (2, u "law"), (0, u "(III)Z")] 7

def k1m0 : Method := { name := "<init>", desc := "()V", sig := { parameters := [], returnType := none }, accessFlags := 2, code := none }
def k1c1 : Code := { maxStack := 4, maxLocals := 14, code := code, exceptionTable := #[], attributes := #[] }
def k1m1 : Method := { name := "law", desc := "(III)Z", sig := { parameters := [.int, .int, .int], returnType := some .boolean }, accessFlags := 9, code := some k1c1 }
/-- com/example/saltwake/saltwake/voyage/ChallengePassedByPinLaw -/
def k1 : Class := { plain "com/example/saltwake/saltwake/voyage/ChallengePassedByPinLaw" (some 0) with
  accessFlags := 49
  interfaces := #[]
  cf := some (fileOf pool1 16 #[] #[{ accessFlags := 2, nameIndex := 5, descriptorIndex := 6, attributes := #[] }, { accessFlags := 9, nameIndex := 20, descriptorIndex := 21, attributes := #[] }] 49 2 #[] #[])
  fields := #[]
  methods := #[k1m0, k1m1]
  instanceTypes := #[]
  staticTypes := #[]
  resolved := Array.replicate 29 none
  statics := none }

def pool2 : Array CpInfo := pool [(1, .methodref 2 3), (0, .class_ 4), (0, .nameAndType 5 6), (0, u "java/lang/Object"), (0, u "<init>"), (0, u "()V"), (0, .class_ 8), (0, u "java/lang/Record")] 13

def k2c0 : Code := { maxStack := 1, maxLocals := 1, code := jdk_30_method_1_code, exceptionTable := #[], attributes := #[] }
def k2m0 : Method := { name := "<init>", desc := "()V", sig := { parameters := [], returnType := none }, accessFlags := 4, code := some k2c0 }
/-- java/lang/Record -/
def k2 : Class := { plain "java/lang/Record" (some 0) with
  accessFlags := 1057
  interfaces := #[]
  cf := some (fileOf pool2 7 #[] #[{ accessFlags := 4, nameIndex := 5, descriptorIndex := 6, attributes := #[] }] 1057 2 #[] #[])
  fields := #[]
  methods := #[k2m0]
  instanceTypes := #[]
  staticTypes := #[]
  resolved := Array.replicate 22 none
  statics := none }

def pool3 : Array CpInfo := pool [(1, .methodref 2 3), (0, .class_ 4), (0, .nameAndType 5 6), (0, u "java/lang/Record"), (0, u "<init>"), (0, u "()V"), (0, .fieldref 8 9), (0, .class_ 10), (0, .nameAndType 11 12), (0, u "com/example/saltwake/saltwake/voyage/JellyfishCard$Challenge"), (0, u "higher"), (0, u "Z"), (0, .fieldref 8 14), (0, .nameAndType 15 16), (0, u "than"), (0, u "I"), (2, u "(ZI)V"), (25, u "passedBy"), (0, u "(I)Z"), (11, .class_ 59), (0, u "com/example/saltwake/saltwake/voyage/JellyfishCard")] 28

def k3c0 : Code := { maxStack := 2, maxLocals := 3, code := prog_36_method_1_code, exceptionTable := #[], attributes := #[] }
def k3m0 : Method := { name := "<init>", desc := "(ZI)V", sig := { parameters := [.boolean, .int], returnType := none }, accessFlags := 0, code := some k3c0 }
def k3c1 : Code := { maxStack := 2, maxLocals := 2, code := prog_36_method_4_code, exceptionTable := #[], attributes := #[] }
def k3m1 : Method := { name := "passedBy", desc := "(I)Z", sig := { parameters := [.int], returnType := some .boolean }, accessFlags := 0, code := some k3c1 }
/-- com/example/saltwake/saltwake/voyage/JellyfishCard$Challenge -/
def k3 : Class := { plain "com/example/saltwake/saltwake/voyage/JellyfishCard$Challenge" (some 2) with
  accessFlags := 48
  interfaces := #[]
  cf := some (fileOf pool3 8 #[.nestHost 58] #[{ accessFlags := 0, nameIndex := 5, descriptorIndex := 19, attributes := #[] }, { accessFlags := 0, nameIndex := 45, descriptorIndex := 46, attributes := #[] }] 48 2 #[] #[{ accessFlags := 18, nameIndex := 11, descriptorIndex := 12, attributes := #[] }, { accessFlags := 18, nameIndex := 15, descriptorIndex := 16, attributes := #[] }])
  fields := #[{ name := "higher", type := .boolean, accessFlags := 18, slot := 0, constantValue := 0 }, { name := "than", type := .int, accessFlags := 18, slot := 1, constantValue := 0 }]
  methods := #[k3m0, k3m1]
  instanceTypes := #[.boolean, .int]
  staticTypes := #[]
  resolved := Array.replicate 88 none
  statics := none }

def pool4 : Array CpInfo := pool [(1, u "java/lang/Cloneable"), (0, .class_ 1), (0, u "java/lang/Object"), (0, .class_ 3)] 3

/-- java/lang/Cloneable -/
def k4 : Class := { plain "java/lang/Cloneable" (some 0) with
  accessFlags := 1537
  interfaces := #[]
  cf := some (fileOf pool4 2 #[] #[] 1537 4 #[] #[])
  fields := #[]
  methods := #[]
  instanceTypes := #[]
  staticTypes := #[]
  resolved := Array.replicate 8 none
  statics := none }

def pool5 : Array CpInfo := pool [(1, u "java/io/Serializable"), (0, .class_ 1), (0, u "java/lang/Object"), (0, .class_ 3)] 3

/-- java/io/Serializable -/
def k5 : Class := { plain "java/io/Serializable" (some 0) with
  accessFlags := 1537
  interfaces := #[]
  cf := some (fileOf pool5 2 #[] #[] 1537 4 #[] #[])
  fields := #[]
  methods := #[]
  instanceTypes := #[]
  staticTypes := #[]
  resolved := Array.replicate 8 none
  statics := none }

/-- the primitive byte -/
def k6 : Class := { plain "byte" none with kind := .primitive 'B', accessFlags := 0x411 }
/-- [B -/
def k7 : Class := { plain "[B" (some 0) with kind := .array 6 .byte, interfaces := #[4, 5], accessFlags := 1041 }

/-- the primitive int -/
def k8 : Class := { plain "int" none with kind := .primitive 'I', accessFlags := 0x411 }
/-- [I -/
def k9 : Class := { plain "[I" (some 0) with kind := .array 8 .int, interfaces := #[4, 5], accessFlags := 1041 }

def heap : Heap := #[]
def classes : Array Class := #[k0, k1, k2, k3, k4, k5, k6, k7, k8, k9]
def interned : List (Array UInt16 × Addr) := []
def slotsUsed : Nat := 0
def theMethod : MethodId := ⟨1, 1⟩
def args0 : Array Value := #[.int 5, .int 5, .int 5]
def aboutOver (below : List Frame) : State where
  vm := { classes := classes, interned := interned.toArray }
  heap := heap
  slotsUsed := slotsUsed
  threads := #[{ frames := .invoking theMethod args0 :: below }]
def below0 : List Frame := [.native { method := ⟨0, 0⟩, args := #[] }]
def about1 : State := aboutOver below0
def p0 : Program := .bare "" "" ""
def e0 : Env := launch0.env 0 0 0
theorem w_frames : about1.frames = Frame.invoking theMethod args0 :: below0 := rfl
set_option maxRecDepth 65536 in
theorem w_args : argsFit about1.vm theMethod args0 = true := by decide +kernel
set_option maxRecDepth 65536 in
theorem w_heap : heapFits about1 = true := by decide +kernel
set_option maxRecDepth 65536 in
theorem w_runnable : about1.curStatus? = some .runnable := by decide +kernel
set_option maxRecDepth 65536 in
theorem w_alone : about1.alone = true := by decide +kernel
set_option maxRecDepth 65536 in
theorem w_named : about1.methodNamed? x = some theMethod := by decide +kernel
set_option maxRecDepth 65536 in
theorem w_hears : about1.hears theMethod below0 = true := by decide +kernel
set_option maxRecDepth 65536 in
theorem w_ripe : about1.ripe theMethod args0 below0 = true := by decide +kernel
theorem w_running : about1.status = .running := rfl
set_option maxRecDepth 65536 in
theorem w_room : about1.hasRoom e0.platform room_1 = true :=
  launch0.hasRoom_least _ room_1 (by decide +kernel) (by decide +kernel) (by decide +kernel) (by decide +kernel) (by decide +kernel) (by decide +kernel)
theorem allAtoms_all (ts : List Jvm.Cond) (a : Array Jvm.Value) (st : Jvm.State) : (allAtoms ts).before a st = ts.all (fun c => c.before a st) := by
  induction ts with
  | nil => rfl
  | cons c t ih =>
    show (Jvm.Cond.and c (allAtoms t)).before a st = _
    rw [Jvm.Cond.before_and, ih, List.all_cons]
def words1 : List Jvm.Cond := Jvm.Cond.code x code maxLocals ret :: tables_1
/-- a 'code' word, met by the world's own term for the bytes: nothing is compared byte by byte -/
theorem code_word {y : MethodName} {bytes : ByteArray} {mx : Nat} {rt : Option FieldType} {a : Array Value} {s : State} {m : MethodId} {meth : Method} {c : Code} (h1 : s.methodNamed? y = some m) (h2 : s.vm.method? m = some meth) (h3 : meth.code = some c) (h4 : c.code = bytes)
    (h5 : (c.maxLocals == mx && c.exceptionTable.isEmpty && decide (c.maxStack ≤ mostOperands) && decide (meth.sig.returnType = rt) && !meth.locks && decide (parseMethodDescriptor y.desc = some meth.sig)) = true) : (Jvm.Cond.code y bytes mx rt).before a s = true := by
  simp only [Bool.and_eq_true, beq_iff_eq, Bool.not_eq_true', decide_eq_true_eq] at h5
  obtain ⟨⟨⟨⟨⟨g1, g2⟩, g3⟩, g4⟩, g5⟩, g6⟩ := h5
  simp [Cond.before, Cond.holds, Cond.value, h1, h2, h3, h4, g1, g2, g3, g4, g5, g6]
def isCode : Jvm.Cond → Bool
  | .code _ _ _ _ => true
  | _ => false
theorem all_split {L : List Jvm.Cond} {P : Jvm.Cond → Bool} (h1 : L.all (fun c => isCode c || P c) = true) (h2 : ∀ c ∈ L.filter isCode, P c = true) : L.all P = true := by
  refine List.all_eq_true.mpr fun c hc => ?_
  have h := List.all_eq_true.mp h1 c hc
  rcases Bool.eq_false_or_eq_true (isCode c) with hi | hi
  · exact h2 c (List.mem_filter.mpr ⟨hc, hi⟩)
  · simpa [hi] using h
set_option maxRecDepth 65536 in
theorem w_c0 : (Jvm.Cond.code x code maxLocals ret).before args0 about1 = true := code_word (m := ⟨1, 1⟩) (meth := k1m1) (c := k1c1) (by decide +kernel) rfl rfl rfl (by decide +kernel)
set_option maxRecDepth 65536 in
theorem w_c1 : (Jvm.Cond.code ({ cls := "com/example/saltwake/saltwake/voyage/JellyfishCard$Challenge", name := "<init>", desc := "(ZI)V" } : Jvm.MethodName) prog_36_method_1_code (3 : Nat) (Option.none : Option Jvm.ClassFile.FieldType)).before args0 about1 = true := code_word (m := ⟨3, 0⟩) (meth := k3m0) (c := k3c0) (by decide +kernel) rfl rfl rfl (by decide +kernel)
set_option maxRecDepth 65536 in
theorem w_c2 : (Jvm.Cond.code ({ cls := "java/lang/Record", name := "<init>", desc := "()V" } : Jvm.MethodName) jdk_30_method_1_code (1 : Nat) (Option.none : Option Jvm.ClassFile.FieldType)).before args0 about1 = true := code_word (m := ⟨2, 0⟩) (meth := k2m0) (c := k2c0) (by decide +kernel) rfl rfl rfl (by decide +kernel)
set_option maxRecDepth 65536 in
theorem w_c3 : (Jvm.Cond.code ({ cls := "java/lang/Object", name := "<init>", desc := "()V" } : Jvm.MethodName) object_method_1_code (1 : Nat) (Option.none : Option Jvm.ClassFile.FieldType)).before args0 about1 = true := code_word (m := ⟨0, 0⟩) (meth := k0m0) (c := k0c0) (by decide +kernel) rfl rfl rfl (by decide +kernel)
set_option maxRecDepth 65536 in
theorem w_c4 : (Jvm.Cond.code ({ cls := "com/example/saltwake/saltwake/voyage/JellyfishCard$Challenge", name := "passedBy", desc := "(I)Z" } : Jvm.MethodName) prog_36_method_4_code (2 : Nat) (Option.some Jvm.ClassFile.FieldType.boolean)).before args0 about1 = true := code_word (m := ⟨3, 1⟩) (meth := k3m1) (c := k3c1) (by decide +kernel) rfl rfl rfl (by decide +kernel)
def codes1 : List Jvm.Cond := [Jvm.Cond.code x code maxLocals ret, Jvm.Cond.code ({ cls := "com/example/saltwake/saltwake/voyage/JellyfishCard$Challenge", name := "<init>", desc := "(ZI)V" } : Jvm.MethodName) prog_36_method_1_code (3 : Nat) (Option.none : Option Jvm.ClassFile.FieldType), Jvm.Cond.code ({ cls := "java/lang/Record", name := "<init>", desc := "()V" } : Jvm.MethodName) jdk_30_method_1_code (1 : Nat) (Option.none : Option Jvm.ClassFile.FieldType), Jvm.Cond.code ({ cls := "java/lang/Object", name := "<init>", desc := "()V" } : Jvm.MethodName) object_method_1_code (1 : Nat) (Option.none : Option Jvm.ClassFile.FieldType), Jvm.Cond.code ({ cls := "com/example/saltwake/saltwake/voyage/JellyfishCard$Challenge", name := "passedBy", desc := "(I)Z" } : Jvm.MethodName) prog_36_method_4_code (2 : Nat) (Option.some Jvm.ClassFile.FieldType.boolean)]
set_option maxRecDepth 65536 in
theorem codes_eq : words1.filter isCode = codes1 := rfl
theorem w_codes : ∀ c ∈ words1.filter isCode, c.before args0 about1 = true := by
  rw [codes_eq]
  intro c hc
  simp only [codes1, List.mem_cons, List.not_mem_nil, or_false] at hc
  rcases hc with rfl | rfl | rfl | rfl | rfl
  · exact w_c0
  · exact w_c1
  · exact w_c2
  · exact w_c3
  · exact w_c4
set_option maxRecDepth 65536 in
theorem w_t1 : words1.all (fun c => isCode c || c.before args0 about1) = true := by decide +kernel
theorem w_tables : (allAtoms (Jvm.Cond.code x code maxLocals ret :: tables_1)).before args0 about1 = true := by
  rw [allAtoms_all]
  show words1.all (fun c => c.before args0 about1) = true
  refine all_split ?_ w_codes
  rw [w_t1]
set_option maxRecDepth 65536 in
theorem w_case : (Jvm.Cond.and given_1 narrow_1).before args0 about1 = true := by decide +kernel
theorem w_applies : (headSpec (Jvm.Cond.code x code maxLocals ret :: tables_1) room_1).applies x e0.platform about1 = true :=
  (Spec.applies_iff w_frames).mpr ⟨w_running, w_runnable, w_alone, w_named, w_hears, w_ripe, w_room, w_tables⟩
theorem atStart : AtStart classFile x code maxLocals ret World_1 tables_1 room_1 Calls_1 rest_1 Pre_1 launch0 p0 e0 about1 theMethod args0 below0 :=
  ⟨lists_1, trivial, launch0.admits_env _ _ _, launch0.least_env, fairChoices_fair.cas, fairChoices_fair.clock, w_frames, w_args, w_heap, w_applies, trivial, trivial, w_case⟩
end start1
theorem witness_1 : WitnessClaimed_1 := ⟨start1.p0, start1.e0, start1.about1, start1.theMethod, start1.args0, start1.below0, start1.atStart⟩
end Jvm.Pilot.@@N@@
