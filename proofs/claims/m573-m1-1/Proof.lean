import JvmDerived
import JvmDerived.Pilot.@@N@@Statement
import JvmDerived.Pilot.@@N@@Code
set_option linter.unusedVariables false
set_option linter.unusedSimpArgs false
namespace Jvm.Pilot.@@N@@
open Jvm Jvm.ClassFile Sem Op Lib Jvm.Free Jvm.Stand Jvm.LawKit Jvm.RoadKit Bundle Jvm.Pilot.@@N@@.Jvm.D
/-! own: the walk's goal, read backwards -/
def Go (tb : Tables) (e : Env) (below : List Frame) (F : State → Outcome → Prop) (A : State) : Prop := ∃ t o, Steps tb e below A t ∧ F t o
def Fin (below : List Frame) (s : State) (Q : Option Value → Heap → List Loc → Prop) (k n : Nat) (t : State) (o : Outcome) : Prop := t.status = .running ∧ Ended t below o ∧ ∃ v L, o = .returned v ∧ Q v t.heap L ∧ FrameEnd s o t L k n
theorem go {tb : Tables} {e : Env} {below : List Frame} {F : State → Outcome → Prop} {A B : State} (st : ∀ t, Steps tb e below B t → Steps tb e below A t) (h : Go tb e below F B) : Go tb e below F A := by
  obtain ⟨t, o, h1, h2⟩ := h
  exact ⟨t, o, st t h1, h2⟩
theorem go_in {p : Program} {e : Env} {below : List Frame} {s s₁ : State} {Q : Option Value → Heap → List Loc → Prop} {k n : Nat} {A : State} (h : ∀ F : State → Outcome → Prop, (∀ t o, Fin below s Q k n t o → F t o) → Go p.tables e below F A) :
    ∃ t o, Steps p.tables e below A t ∧ t.status = .running ∧ Ended t below o ∧ ∃ v L, o = .returned v ∧ Q v t.heap L ∧ FrameEnd s o t L k n := by
  obtain ⟨t, o, h1, h2, h3, h4⟩ := h (Fin below s Q k n) (fun _ _ h => h)
  exact ⟨t, o, h1, h2, h3, h4⟩
theorem own_fld {s : State} {args : Array Value} {t : Term} {C n d : String} {a : Addr} {k : Int32} (ev : t.eval args s none [] s = some (.ref a)) (h : (Cond.eq (.field t C n d) (.int k)).value args s none s [] = some true) : Fld s s.heap a C n d (.int k) := Fld.start ((fld_at ev).symm.trans (eqv_i (Term.int_eval k) h))
def NSt (h : Heap) (x : Addr) : Prop := ∃ c : Cell, h[x]? = some c ∧ c.vm.isStatics = false
theorem own_sta_keep {Z : State} {h h' : Heap} {C n d : String} {v : Value} {ws : List Addr} (F : Sta Z h C n d v) (K : Keep h h' ws) (q : ∀ x ∈ ws, NSt h x) : Sta Z h' C n d v := by
  obtain ⟨cf, i, k, f, st, cell, h1, h2, h3, h4, h5, h6, h7⟩ := F
  refine ⟨cf, i, k, f, st, cell, h1, h2, h3, h4, K.2.1 _ _ h5 (fun z => ?_), h6, h7⟩
  obtain ⟨c, g1, g2⟩ := q _ z
  cases h5.symm.trans g1
  rw [h6] at g2; cases g2
end Jvm.Pilot.@@N@@
namespace Jvm.RoadKit
theorem Exa.ns {Z : State} {h : Heap} {a : Addr} {C : String} (F : Exa Z h a C) : Jvm.Pilot.@@N@@.NSt h a := by
  obtain ⟨c, _, h1, -, -, h4, -⟩ := F; exact ⟨c, h1, h4⟩
theorem Arv.ns {Z : State} {h : Heap} {a : Addr} {k : ClassId} {ty : ClassFile.FieldType} {z : Int32} {vs : List Value} {dv : Value} (F : Arv Z h a k ty z vs dv) : Jvm.Pilot.@@N@@.NSt h a := by
  obtain ⟨c, A, -⟩ := F; exact ⟨c, A.1, A.plain⟩
end Jvm.RoadKit
namespace Jvm.Pilot.@@N@@
open Jvm Jvm.ClassFile Sem Op Lib Jvm.Free Jvm.Stand Jvm.LawKit Jvm.RoadKit Bundle Jvm.Pilot.@@N@@.Jvm.D
theorem own_no {Z : State} {aw : Array Value} {X Y : String} {t : List String} {n : Nat} (hwc : ∀ w ∈ Cond.chainWords (X :: t), w.before aw Z = true) (wi : (Cond.instantiable Y n).before aw Z = true) (hn : Y ∉ X :: t) : ∃ c t, Z.vm.findClass X = some c ∧ Z.vm.findClass Y = some t ∧ Z.vm.assignable c t = false := by
  obtain ⟨cy, ky, hy1, hy2, hy3, hy4, -⟩ := Cond.instantiable_spec wi
  obtain ⟨cx, k, hx, -⟩ := Cond.chain_head hwc
  exact ⟨cx, cy, hx, hy1, Vm.notAssignable_of_chain hx hy1 hy2 hy3 (Bool.or_eq_false_iff.mp hy4).1 hwc hn⟩
theorem own_selp {Z s : State} {aw args : Array Value} {y : MethodName} {n : Nat} (hZ : Z.Warmed39 s.vm) (wi : (Cond.instantiable y.cls n).before aw Z = true) (wp : (Cond.privateMethod y).before aw Z = true) (wm : (Cond.instanceMethod y).before aw Z = true) (hy : y.cls ≠ "java/lang/invoke/MethodHandle" ∧ y.cls ≠ "java/lang/invoke/VarHandle") : (Cond.selects y.cls y y).before args s = true := by
  obtain ⟨c, k, h1, h2, -, h4, -⟩ := Cond.instantiable_spec (mvT (args := args) hZ wi)
  exact selects_self_of_private h1 h2 (Bool.or_eq_false_iff.mp h4).1 (Cond.privateMethod_at (mvP hZ wp (args := args))) (mvT hZ wm) hy
section Ends
variable {p : Program} {l : Launch} {e : Env} {R : Room} {s : State} {m : MethodId} {args : Array Value} {below : List Frame} {meth : Method} {c : Code} {T : State} {locs : List Loc} {cells slots : Nat} {F : State → Outcome → Prop} {Q : Option Value → Heap → List Loc → Prop} {k n : Nat} {pc : Nat} {Ls : Array Slot} {rest : List Value} {h : Heap}
/-- the end of a walk: what is returned, what the heap says -/
theorem go_end (X : Stand p l e R s m args below meth c T locs cells slots) (hlk : meth.locks = false) (hF : ∀ t o, Fin below s Q k n t o → F t o) (eT : T.heap = h) (hk : cells ≤ k) (hn : slots ≤ n) {v : Option Value} (hv : meth.sig.returnType = none → v = none) (hQ : Q v h locs) {A : State}
    (hs : ∀ fs, (∀ (f : JFrame) (acts : List Action), f.method = m → f.locked = none → f.entered = [] → (doReturn e (T.setTop f) acts v).1 = T.setFrames fs) → Steps p.tables e below A (T.setFrames fs)) : Go p.tables e below F A := by
  obtain ⟨fs, hr, hrun, hended, hW, hsame⟩ := X.leave (v := v) hv hlk
  subst eT
  exact ⟨_, _, hs fs hr, hF _ _ ⟨hrun, hended, _, _, rfl, hQ, ⟨_, rfl⟩, hW, hsame.mono hk hn⟩⟩
theorem end_void (X : Stand p l e R s m args below meth c T locs cells slots) (hx : p.tables.exec = Jvm.exec) (hlk : meth.locks = false) (hret : meth.sig.returnType = none) (hd : decode c.code pc = .ok (.return_, 1)) (hF : ∀ t o, Fin below s Q k n t o → F t o) (eT : T.heap = h) (hk : cells ≤ k) (hn : slots ≤ n) (hQ : Q none h locs) : Go p.tables e below F (T.setTop (mkF m pc Ls [])) :=
  go_end X hlk hF eT hk hn (fun _ => rfl) hQ fun fs hr => X.returnOut hx hret hd hr
theorem end_nar {z : Int32} {t : FieldType} (X : Stand p l e R s m args below meth c T locs cells slots) (hx : p.tables.exec = Jvm.exec) (hlk : meth.locks = false) (hret : meth.sig.returnType = some t) (ht : t = .boolean ∨ t = .byte ∨ t = .char ∨ t = .short) (hd : decode c.code pc = .ok (.ireturn, 1)) (hF : ∀ t o, Fin below s Q k n t o → F t o) (eT : T.heap = h) (hk : cells ≤ k) (hn : slots ≤ n) (hQ : Q (some (.int (nar t z))) h locs) : Go p.tables e below F (T.setTop (mkF m pc Ls (.int z :: rest))) :=
  go_end X hlk hF eT hk hn (fun h => by rw [hret] at h; cases h) hQ fun fs hr => retN X hx hret ht hd hr
theorem end_int {z : Int32} (X : Stand p l e R s m args below meth c T locs cells slots) (hx : p.tables.exec = Jvm.exec) (hlk : meth.locks = false) (hret : meth.sig.returnType = some .int) (hd : decode c.code pc = .ok (.ireturn, 1)) (hF : ∀ t o, Fin below s Q k n t o → F t o) (eT : T.heap = h) (hk : cells ≤ k) (hn : slots ≤ n) (hQ : Q (some (.int z)) h locs) : Go p.tables e below F (T.setTop (mkF m pc Ls (.int z :: rest))) :=
  go_end X hlk hF eT hk hn (fun h => by rw [hret] at h; cases h) hQ fun fs hr => retOut X hx hret rfl (Or.inl ⟨rfl, Or.inl rfl, _, rfl⟩) hd hr
theorem end_long {z : Int64} (X : Stand p l e R s m args below meth c T locs cells slots) (hx : p.tables.exec = Jvm.exec) (hlk : meth.locks = false) (hret : meth.sig.returnType = some .long) (hd : decode c.code pc = .ok (.lreturn, 1)) (hF : ∀ t o, Fin below s Q k n t o → F t o) (eT : T.heap = h) (hk : cells ≤ k) (hn : slots ≤ n) (hQ : Q (some (.long z)) h locs) : Go p.tables e below F (T.setTop (mkF m pc Ls (.long z :: rest))) :=
  go_end X hlk hF eT hk hn (fun h => by rw [hret] at h; cases h) hQ fun fs hr => retOut X hx hret rfl (Or.inr (Or.inl ⟨rfl, rfl, _, rfl⟩)) hd hr
theorem end_ref {w : Value} {t : FieldType} (X : Stand p l e R s m args below meth c T locs cells slots) (hx : p.tables.exec = Jvm.exec) (hlk : meth.locks = false) (hret : meth.sig.returnType = some t) (ht : t.isReference = true) (hw : w.isRef = true) (hnr : narrow t w = w) (hd : decode c.code pc = .ok (.areturn, 1)) (hF : ∀ t o, Fin below s Q k n t o → F t o) (eT : T.heap = h) (hk : cells ≤ k) (hn : slots ≤ n) (hQ : Q (some w) h locs) : Go p.tables e below F (T.setTop (mkF m pc Ls (w :: rest))) :=
  go_end X hlk hF eT hk hn (fun h => by rw [hret] at h; cases h) hQ fun fs hr => retOut X hx hret hnr (Or.inr (Or.inr (Or.inr (Or.inr ⟨rfl, ht, hw⟩)))) hd hr
end Ends
theorem d2_0 : decode jdk_30_method_1_code 0 = .ok (.aload_n 0, 1) := by decide +kernel
theorem d2_1 : decode jdk_30_method_1_code 1 = .ok (.invokespecial 1, 3) := by decide +kernel
theorem d2_4 : decode jdk_30_method_1_code 4 = .ok (.return_, 1) := by decide +kernel
theorem pn_2 : plainName "java/lang/Record" = true := by first | (simp [plainName, overriddenIn]; done) | decide +kernel
theorem ef_2 (m : MethodId) (a0 : Addr) : entryFrame m #[(.ref a0)] 1 = mkF m 0 #[.val (.ref a0)] [] := by first | (simp [entryFrame, mkF, argsToLocals, Value.category]; done) | rfl
abbrev room2 : Room := { frames := 1, cells := 0, slots := 0, locals := 12 }
def Q2 (Z : State) (a0 : Addr) (h0 : Heap) (n0 : Nat) (v : Option Value) (h : Heap) (L : List Loc) : Prop := v = none ∧ L = [] ∧ h = h0
set_option maxRecDepth 65536 in
set_option maxHeartbeats 40000000 in
theorem rm2 (l : Launch) (Z : State) (aw : Array Value) (hw : ∀ d ∈ tables_1, d.before aw Z = true) (ws : List Jvm.Cond) (a0 : Addr) (h0 : Heap) (n0 : Nat) (Z0 : n0 ≤ h0.size) :
    MetFree l (⟨"java/lang/Record", "<init>", "()V"⟩ : MethodName) (head1 (Jvm.Cond.code (⟨"java/lang/Record", "<init>", "()V"⟩ : MethodName) jdk_30_method_1_code 1 none :: ws) room2) (fun a U => a = #[(.ref a0)] ∧ Z.Warmed39 U.vm ∧ U.heap = h0) (fun _ _ _ _ _ => True) (fun _ U o U' => ∃ v L, o = .returned v ∧ Q2 Z a0 h0 n0 v U'.heap L ∧ FrameEnd U o U' L room2.cells room2.slots) := by
  refine MetFree.of_bodySF (plainFor_of_name pn_2) hisR ?_
  intro p e s m args below meth c s₁ Bd hml0 hP hK
  obtain ⟨rfl, hZ, hh⟩ := hP
  have hx := Bd.exec
  have hby := Bd.bytes
  have hml : c.maxLocals = 1 := hml0
  have hown : s.vm.findClass "java/lang/Record" = some m.cls := findClass_of_methodNamed Bd.named
  have hnm := (name_of_methodNamed Bd.named Bd.method).1
  have X0 : Stand p l e room2 s m #[(.ref a0)] below meth c s₁ [] 0 0 := Stand.of_body Bd
  have e0 : s₁.heap = h0 := by rw [← hh, Bd.state]; rfl
  have N0 := Fr.nil n0
  rw [ef_2 m a0]
  refine go_in (s₁ := s₁) (Q := Q2 Z a0 h0 n0) fun F hF => ?_
  refine go (B := s₁.setTop (mkF m 1 #[.val (.ref a0)] [(.ref a0)])) (fun _ k => XS.aloadN X0.here hx rfl (hb hby d2_0) rfl rfl k) ?_
  obtain ⟨T1, X1, e1, st1⟩ := initO X0 hx hZ hown (hw _ (List.mem_of_getElem? (i := 11) rfl)) (hw _ (List.mem_of_getElem? (i := 12) rfl)) (hw _ (List.mem_of_getElem? (i := 13) rfl)) e0 (g := (mkF m 1 #[.val (.ref a0)] [(.ref a0)])) rfl (by rw [hml]; rfl) rfl (hb hby d2_1) (by decide) (W := 0) (by show 2 * 0 + _ ≤ _; exact Nat.le_of_eq rfl) (by decide)
  refine go (B := T1.setTop (mkF m 4 #[.val (.ref a0)] [])) st1 ?_
  exact end_void X1 hx Bd.notSynchronized Bd.returns (hb hby d2_4) hF e1 (by decide) (by decide) ⟨rfl, rfl, rfl⟩
theorem pd_0 : parseMethodDescriptor "()V" = some ⟨[], none⟩ := by decide +kernel
theorem d1_0 : decode prog_82_method_1_code 0 = .ok (.aload_n 0, 1) := by decide +kernel
theorem d1_1 : decode prog_82_method_1_code 1 = .ok (.invokespecial 1, 3) := by decide +kernel
theorem d1_4 : decode prog_82_method_1_code 4 = .ok (.aload_n 0, 1) := by decide +kernel
theorem d1_5 : decode prog_82_method_1_code 5 = .ok (.lload_n 1, 1) := by decide +kernel
theorem d1_6 : decode prog_82_method_1_code 6 = .ok (.putfield 7, 3) := by decide +kernel
theorem d1_9 : decode prog_82_method_1_code 9 = .ok (.aload_n 0, 1) := by decide +kernel
theorem d1_10 : decode prog_82_method_1_code 10 = .ok (.lload_n 3, 1) := by decide +kernel
theorem d1_11 : decode prog_82_method_1_code 11 = .ok (.putfield 13, 3) := by decide +kernel
theorem d1_14 : decode prog_82_method_1_code 14 = .ok (.aload_n 0, 1) := by decide +kernel
theorem d1_15 : decode prog_82_method_1_code 15 = .ok (.lload 5, 2) := by decide +kernel
theorem d1_17 : decode prog_82_method_1_code 17 = .ok (.putfield 16, 3) := by decide +kernel
theorem d1_20 : decode prog_82_method_1_code 20 = .ok (.aload_n 0, 1) := by decide +kernel
theorem d1_21 : decode prog_82_method_1_code 21 = .ok (.lload 7, 2) := by decide +kernel
theorem d1_23 : decode prog_82_method_1_code 23 = .ok (.putfield 19, 3) := by decide +kernel
theorem d1_26 : decode prog_82_method_1_code 26 = .ok (.return_, 1) := by decide +kernel
theorem pn_1 : plainName "com/example/quorumtree/quorumtree/core/quorum/Vote" = true := by first | (simp [plainName, overriddenIn]; done) | decide +kernel
theorem ef_1 (m : MethodId) (a0 : Addr) (q1 : Int64) (q2 : Int64) (q3 : Int64) (q4 : Int64) : entryFrame m #[(.ref a0), (.long q1), (.long q2), (.long q3), (.long q4)] 9 = mkF m 0 #[.val (.ref a0), .val (.long q1), .second, .val (.long q2), .second, .val (.long q3), .second, .val (.long q4), .second] [] := by first | (simp [entryFrame, mkF, argsToLocals, Value.category]; done) | rfl
abbrev room1 : Room := { frames := 2, cells := 0, slots := 0, locals := 24 }
def Q1 (Z : State) (a0 : Addr) (q1 : Int64) (q2 : Int64) (q3 : Int64) (q4 : Int64) (h0 : Heap) (n0 : Nat) (v : Option Value) (h : Heap) (L : List Loc) : Prop := v = none ∧ Fr n0 L ∧ Keep h0 h [a0] ∧ Exa Z h a0 "com/example/quorumtree/quorumtree/core/quorum/Vote" ∧ Fld Z h a0 "com/example/quorumtree/quorumtree/core/quorum/Vote" "leader" "J" (.long q1) ∧ Fld Z h a0 "com/example/quorumtree/quorumtree/core/quorum/Vote" "zxid" "J" (.long q2) ∧ Fld Z h a0 "com/example/quorumtree/quorumtree/core/quorum/Vote" "epoch" "J" (.long q3) ∧ Fld Z h a0 "com/example/quorumtree/quorumtree/core/quorum/Vote" "history" "J" (.long q4)
set_option maxRecDepth 65536 in
set_option maxHeartbeats 40000000 in
theorem rm1 (l : Launch) (Z : State) (aw : Array Value) (hw : ∀ d ∈ tables_1, d.before aw Z = true) (ws : List Jvm.Cond) (a0 : Addr) (q1 : Int64) (q2 : Int64) (q3 : Int64) (q4 : Int64) (h0 : Heap) (n0 : Nat) (Z0 : n0 ≤ h0.size) (F_leader_a0 : Fld Z h0 a0 "com/example/quorumtree/quorumtree/core/quorum/Vote" "leader" "J" (.long (0 : Int64))) (F_zxid_a0 : Fld Z h0 a0 "com/example/quorumtree/quorumtree/core/quorum/Vote" "zxid" "J" (.long (0 : Int64))) (F_epoch_a0 : Fld Z h0 a0 "com/example/quorumtree/quorumtree/core/quorum/Vote" "epoch" "J" (.long (0 : Int64))) (F_history_a0 : Fld Z h0 a0 "com/example/quorumtree/quorumtree/core/quorum/Vote" "history" "J" (.long (0 : Int64))) (E_a0 : Exa Z h0 a0 "com/example/quorumtree/quorumtree/core/quorum/Vote") (g_a0 : n0 ≤ a0) :
    MetFree l (⟨"com/example/quorumtree/quorumtree/core/quorum/Vote", "<init>", "(JJJJ)V"⟩ : MethodName) (head1 (Jvm.Cond.code (⟨"com/example/quorumtree/quorumtree/core/quorum/Vote", "<init>", "(JJJJ)V"⟩ : MethodName) prog_82_method_1_code 9 none :: ws) room1) (fun a U => a = #[(.ref a0), (.long q1), (.long q2), (.long q3), (.long q4)] ∧ Z.Warmed39 U.vm ∧ U.heap = h0) (fun _ _ _ _ _ => True) (fun _ U o U' => ∃ v L, o = .returned v ∧ Q1 Z a0 q1 q2 q3 q4 h0 n0 v U'.heap L ∧ FrameEnd U o U' L room1.cells room1.slots) := by
  refine MetFree.of_bodySF (plainFor_of_name pn_1) hisR ?_
  intro p e s m args below meth c s₁ Bd hml0 hP hK
  obtain ⟨rfl, hZ, hh⟩ := hP
  have hx := Bd.exec
  have hby := Bd.bytes
  have hml : c.maxLocals = 9 := hml0
  have hown : s.vm.findClass "com/example/quorumtree/quorumtree/core/quorum/Vote" = some m.cls := findClass_of_methodNamed Bd.named
  have hnm := (name_of_methodNamed Bd.named Bd.method).1
  have X0 : Stand p l e room1 s m #[(.ref a0), (.long q1), (.long q2), (.long q3), (.long q4)] below meth c s₁ [] 0 0 := Stand.of_body Bd
  have e0 : s₁.heap = h0 := by rw [← hh, Bd.state]; rfl
  have N0 := Fr.nil n0
  have K0 := Keep.refl h0 [a0]
  rw [ef_1 m a0 q1 q2 q3 q4]
  refine go_in (s₁ := s₁) (Q := Q1 Z a0 q1 q2 q3 q4 h0 n0) fun F hF => ?_
  refine go (B := s₁.setTop (mkF m 1 #[.val (.ref a0), .val (.long q1), .second, .val (.long q2), .second, .val (.long q3), .second, .val (.long q4), .second] [(.ref a0)])) (fun _ k => XS.aloadN X0.here hx rfl (hb hby d1_0) rfl rfl k) ?_
  obtain ⟨_, _, ⟨T1, L1, k1, n1⟩, -, X1, ⟨Lc1, hQ1, l1, y1, z1⟩, st1⟩ := X0.specialBack hx (y := (⟨"java/lang/Record", "<init>", "()V"⟩ : MethodName)) rfl hown (mvT hZ (hw _ (List.mem_of_getElem? (i := 6) rfl))) (mvT hZ (hw _ (List.mem_of_getElem? (i := 7) rfl))) (mvT hZ (hw _ (List.mem_of_getElem? (i := 10) rfl))) (by decide) (backOf (W := 0) (rm2 l Z aw hw [] a0 h0 n0 Z0 ) hZ (hw _ (List.mem_of_getElem? (i := 10) rfl)) (hw _ (List.mem_of_getElem? (i := 9) rfl)) (by decide) (by decide)) (g := (mkF m 1 #[.val (.ref a0), .val (.long q1), .second, .val (.long q2), .second, .val (.long q3), .second, .val (.long q4), .second] [(.ref a0)])) rfl (by rw [hml]; rfl) (Steps.refl _) (a := a0) (argsL := []) (rest := []) (lenOf pd_0 rfl) rfl (by show 2 * 0 + _ ≤ _; exact Nat.le_of_eq rfl) (hb hby d1_1) (fun _ _ => ⟨rfl, e0, (by decide : 0 + 0 ≤ _), (by decide : 0 + 0 ≤ _)⟩)
  dsimp only [Pt.U, Pt.locs, Pt.cells, Pt.slots] at X1 l1 y1 z1 st1 hQ1
  subst l1 y1 z1
  obtain ⟨rfl, rfl, e1⟩ := hQ1
  have N1 := Fr.app N0 (Fr.nil n0)
  refine go (B := T1.setTop (mkF m 4 #[.val (.ref a0), .val (.long q1), .second, .val (.long q2), .second, .val (.long q3), .second, .val (.long q4), .second] [])) (fun _ k => st1.trans k) ?_
  refine go (B := T1.setTop (mkF m 5 #[.val (.ref a0), .val (.long q1), .second, .val (.long q2), .second, .val (.long q3), .second, .val (.long q4), .second] [(.ref a0)])) (fun _ k => XS.aloadN X1.here hx rfl (hb hby d1_4) rfl rfl k) ?_
  refine go (B := T1.setTop (mkF m 6 #[.val (.ref a0), .val (.long q1), .second, .val (.long q2), .second, .val (.long q3), .second, .val (.long q4), .second] [(.long q1), (.ref a0)])) (fun _ k => XS.lloadN X1.here hx rfl (hb hby d1_5) rfl k) ?_
  obtain ⟨T2, h2, X2, e2, W2, st2⟩ := putF X1 hx hZ hown (host := "") (Or.inl (hw _ (List.mem_of_getElem? (i := 14) rfl))) Via.refl e1 F_leader_a0 E_a0 (Or.inr ⟨(hw _ (List.mem_of_getElem? (i := 15) rfl)), rfl, hnm⟩) (hw _ (List.mem_of_getElem? (i := 1) rfl)) (ty := .long) (by decide) rfl rfl (g := (mkF m 6 #[.val (.ref a0), .val (.long q1), .second, .val (.long q2), .second, .val (.long q3), .second, .val (.long q4), .second] [(.long q1), (.ref a0)])) rfl rfl (hb hby d1_6)
  have F_zxid_a0_2 := Fld.other W2 F_zxid_a0 (Or.inr (slot_ne (Or.inr (hw _ (List.mem_of_getElem? (i := 17) rfl))) (Or.inr (hw _ (List.mem_of_getElem? (i := 15) rfl))) (by decide) (t := .long) (t' := .long) (by decide) (by decide)))
  have F_epoch_a0_2 := Fld.other W2 F_epoch_a0 (Or.inr (slot_ne (Or.inr (hw _ (List.mem_of_getElem? (i := 19) rfl))) (Or.inr (hw _ (List.mem_of_getElem? (i := 15) rfl))) (by decide) (t := .long) (t' := .long) (by decide) (by decide)))
  have F_history_a0_2 := Fld.other W2 F_history_a0 (Or.inr (slot_ne (Or.inr (hw _ (List.mem_of_getElem? (i := 21) rfl))) (Or.inr (hw _ (List.mem_of_getElem? (i := 15) rfl))) (by decide) (t := .long) (t' := .long) (by decide) (by decide)))
  have E_a0_2 := E_a0.wr W2
  have F_leader_a0_2 := Fld.same W2 F_leader_a0
  have Z2 := Nat.le_trans Z0 (Keep.of_wr W2).1
  have K2 := K0.wr W2 (Or.inl (List.mem_of_getElem? (i := 0) rfl))
  have N2 := Fr.snoc X2 N1 g_a0
  refine go (B := T2.setTop (mkF m 9 #[.val (.ref a0), .val (.long q1), .second, .val (.long q2), .second, .val (.long q3), .second, .val (.long q4), .second] [])) st2 ?_
  refine go (B := T2.setTop (mkF m 10 #[.val (.ref a0), .val (.long q1), .second, .val (.long q2), .second, .val (.long q3), .second, .val (.long q4), .second] [(.ref a0)])) (fun _ k => XS.aloadN X2.here hx rfl (hb hby d1_9) rfl rfl k) ?_
  refine go (B := T2.setTop (mkF m 11 #[.val (.ref a0), .val (.long q1), .second, .val (.long q2), .second, .val (.long q3), .second, .val (.long q4), .second] [(.long q2), (.ref a0)])) (fun _ k => XS.lloadN X2.here hx rfl (hb hby d1_10) rfl k) ?_
  obtain ⟨T3, h3, X3, e3, W3, st3⟩ := putF X2 hx hZ hown (host := "") (Or.inl (hw _ (List.mem_of_getElem? (i := 16) rfl))) Via.refl e2 F_zxid_a0_2 E_a0_2 (Or.inr ⟨(hw _ (List.mem_of_getElem? (i := 17) rfl)), rfl, hnm⟩) (hw _ (List.mem_of_getElem? (i := 1) rfl)) (ty := .long) (by decide) rfl rfl (g := (mkF m 11 #[.val (.ref a0), .val (.long q1), .second, .val (.long q2), .second, .val (.long q3), .second, .val (.long q4), .second] [(.long q2), (.ref a0)])) rfl rfl (hb hby d1_11)
  have F_epoch_a0_3 := Fld.other W3 F_epoch_a0_2 (Or.inr (slot_ne (Or.inr (hw _ (List.mem_of_getElem? (i := 19) rfl))) (Or.inr (hw _ (List.mem_of_getElem? (i := 17) rfl))) (by decide) (t := .long) (t' := .long) (by decide) (by decide)))
  have F_history_a0_3 := Fld.other W3 F_history_a0_2 (Or.inr (slot_ne (Or.inr (hw _ (List.mem_of_getElem? (i := 21) rfl))) (Or.inr (hw _ (List.mem_of_getElem? (i := 17) rfl))) (by decide) (t := .long) (t' := .long) (by decide) (by decide)))
  have E_a0_3 := E_a0_2.wr W3
  have F_leader_a0_3 := Fld.other W3 F_leader_a0_2 (Or.inr (slot_ne (Or.inr (hw _ (List.mem_of_getElem? (i := 15) rfl))) (Or.inr (hw _ (List.mem_of_getElem? (i := 17) rfl))) (by decide) (t := .long) (t' := .long) (by decide) (by decide)))
  have F_zxid_a0_3 := Fld.same W3 F_zxid_a0_2
  have Z3 := Nat.le_trans Z2 (Keep.of_wr W3).1
  have K3 := K2.wr W3 (Or.inl (List.mem_of_getElem? (i := 0) rfl))
  have N3 := Fr.snoc X3 N2 g_a0
  refine go (B := T3.setTop (mkF m 14 #[.val (.ref a0), .val (.long q1), .second, .val (.long q2), .second, .val (.long q3), .second, .val (.long q4), .second] [])) st3 ?_
  refine go (B := T3.setTop (mkF m 15 #[.val (.ref a0), .val (.long q1), .second, .val (.long q2), .second, .val (.long q3), .second, .val (.long q4), .second] [(.ref a0)])) (fun _ k => XS.aloadN X3.here hx rfl (hb hby d1_14) rfl rfl k) ?_
  refine go (B := T3.setTop (mkF m 17 #[.val (.ref a0), .val (.long q1), .second, .val (.long q2), .second, .val (.long q3), .second, .val (.long q4), .second] [(.long q3), (.ref a0)])) (fun _ k => XS.lload X3.here hx rfl (hb hby d1_15) rfl k) ?_
  obtain ⟨T4, h4, X4, e4, W4, st4⟩ := putF X3 hx hZ hown (host := "") (Or.inl (hw _ (List.mem_of_getElem? (i := 18) rfl))) Via.refl e3 F_epoch_a0_3 E_a0_3 (Or.inr ⟨(hw _ (List.mem_of_getElem? (i := 19) rfl)), rfl, hnm⟩) (hw _ (List.mem_of_getElem? (i := 1) rfl)) (ty := .long) (by decide) rfl rfl (g := (mkF m 17 #[.val (.ref a0), .val (.long q1), .second, .val (.long q2), .second, .val (.long q3), .second, .val (.long q4), .second] [(.long q3), (.ref a0)])) rfl rfl (hb hby d1_17)
  have F_history_a0_4 := Fld.other W4 F_history_a0_3 (Or.inr (slot_ne (Or.inr (hw _ (List.mem_of_getElem? (i := 21) rfl))) (Or.inr (hw _ (List.mem_of_getElem? (i := 19) rfl))) (by decide) (t := .long) (t' := .long) (by decide) (by decide)))
  have E_a0_4 := E_a0_3.wr W4
  have F_leader_a0_4 := Fld.other W4 F_leader_a0_3 (Or.inr (slot_ne (Or.inr (hw _ (List.mem_of_getElem? (i := 15) rfl))) (Or.inr (hw _ (List.mem_of_getElem? (i := 19) rfl))) (by decide) (t := .long) (t' := .long) (by decide) (by decide)))
  have F_zxid_a0_4 := Fld.other W4 F_zxid_a0_3 (Or.inr (slot_ne (Or.inr (hw _ (List.mem_of_getElem? (i := 17) rfl))) (Or.inr (hw _ (List.mem_of_getElem? (i := 19) rfl))) (by decide) (t := .long) (t' := .long) (by decide) (by decide)))
  have F_epoch_a0_4 := Fld.same W4 F_epoch_a0_3
  have Z4 := Nat.le_trans Z3 (Keep.of_wr W4).1
  have K4 := K3.wr W4 (Or.inl (List.mem_of_getElem? (i := 0) rfl))
  have N4 := Fr.snoc X4 N3 g_a0
  refine go (B := T4.setTop (mkF m 20 #[.val (.ref a0), .val (.long q1), .second, .val (.long q2), .second, .val (.long q3), .second, .val (.long q4), .second] [])) st4 ?_
  refine go (B := T4.setTop (mkF m 21 #[.val (.ref a0), .val (.long q1), .second, .val (.long q2), .second, .val (.long q3), .second, .val (.long q4), .second] [(.ref a0)])) (fun _ k => XS.aloadN X4.here hx rfl (hb hby d1_20) rfl rfl k) ?_
  refine go (B := T4.setTop (mkF m 23 #[.val (.ref a0), .val (.long q1), .second, .val (.long q2), .second, .val (.long q3), .second, .val (.long q4), .second] [(.long q4), (.ref a0)])) (fun _ k => XS.lload X4.here hx rfl (hb hby d1_21) rfl k) ?_
  obtain ⟨T5, h5, X5, e5, W5, st5⟩ := putF X4 hx hZ hown (host := "") (Or.inl (hw _ (List.mem_of_getElem? (i := 20) rfl))) Via.refl e4 F_history_a0_4 E_a0_4 (Or.inr ⟨(hw _ (List.mem_of_getElem? (i := 21) rfl)), rfl, hnm⟩) (hw _ (List.mem_of_getElem? (i := 1) rfl)) (ty := .long) (by decide) rfl rfl (g := (mkF m 23 #[.val (.ref a0), .val (.long q1), .second, .val (.long q2), .second, .val (.long q3), .second, .val (.long q4), .second] [(.long q4), (.ref a0)])) rfl rfl (hb hby d1_23)
  have E_a0_5 := E_a0_4.wr W5
  have F_leader_a0_5 := Fld.other W5 F_leader_a0_4 (Or.inr (slot_ne (Or.inr (hw _ (List.mem_of_getElem? (i := 15) rfl))) (Or.inr (hw _ (List.mem_of_getElem? (i := 21) rfl))) (by decide) (t := .long) (t' := .long) (by decide) (by decide)))
  have F_zxid_a0_5 := Fld.other W5 F_zxid_a0_4 (Or.inr (slot_ne (Or.inr (hw _ (List.mem_of_getElem? (i := 17) rfl))) (Or.inr (hw _ (List.mem_of_getElem? (i := 21) rfl))) (by decide) (t := .long) (t' := .long) (by decide) (by decide)))
  have F_epoch_a0_5 := Fld.other W5 F_epoch_a0_4 (Or.inr (slot_ne (Or.inr (hw _ (List.mem_of_getElem? (i := 19) rfl))) (Or.inr (hw _ (List.mem_of_getElem? (i := 21) rfl))) (by decide) (t := .long) (t' := .long) (by decide) (by decide)))
  have F_history_a0_5 := Fld.same W5 F_history_a0_4
  have Z5 := Nat.le_trans Z4 (Keep.of_wr W5).1
  have K5 := K4.wr W5 (Or.inl (List.mem_of_getElem? (i := 0) rfl))
  have N5 := Fr.snoc X5 N4 g_a0
  refine go (B := T5.setTop (mkF m 26 #[.val (.ref a0), .val (.long q1), .second, .val (.long q2), .second, .val (.long q3), .second, .val (.long q4), .second] [])) st5 ?_
  exact end_void X5 hx Bd.notSynchronized Bd.returns (hb hby d1_26) hF e5 (by decide) (by decide) ⟨rfl, N5, K5, E_a0_5, F_leader_a0_5, F_zxid_a0_5, F_epoch_a0_5, F_history_a0_5⟩
theorem d4_0 : decode prog_82_method_4_code 0 = .ok (.lload_n 1, 1) := by decide +kernel
theorem d4_1 : decode prog_82_method_4_code 1 = .ok (.lconst 0, 1) := by decide +kernel
theorem d4_2 : decode prog_82_method_4_code 2 = .ok (.lcmp, 1) := by decide +kernel
theorem d4_3 : decode prog_82_method_4_code 3 = .ok (.ifCond .eq 12, 3) := by decide +kernel
theorem d4_6 : decode prog_82_method_4_code 6 = .ok (.aload_n 0, 1) := by decide +kernel
theorem d4_7 : decode prog_82_method_4_code 7 = .ok (.getfield 19, 3) := by decide +kernel
theorem d4_10 : decode prog_82_method_4_code 10 = .ok (.lload_n 1, 1) := by decide +kernel
theorem d4_11 : decode prog_82_method_4_code 11 = .ok (.lcmp, 1) := by decide +kernel
theorem d4_12 : decode prog_82_method_4_code 12 = .ok (.ifCond .ne 7, 3) := by decide +kernel
theorem d4_15 : decode prog_82_method_4_code 15 = .ok (.iconst 1, 1) := by decide +kernel
theorem d4_16 : decode prog_82_method_4_code 16 = .ok (.goto 4, 3) := by decide +kernel
theorem d4_19 : decode prog_82_method_4_code 19 = .ok (.iconst 0, 1) := by decide +kernel
theorem d4_20 : decode prog_82_method_4_code 20 = .ok (.ireturn, 1) := by decide +kernel
theorem ef_4 (m : MethodId) (a0 : Addr) (q1 : Int64) : entryFrame m #[(.ref a0), (.long q1)] 3 = mkF m 0 #[.val (.ref a0), .val (.long q1), .second] [] := by first | (simp [entryFrame, mkF, argsToLocals, Value.category]; done) | rfl
def f4 (q1 : Int64) (w_history_a0 : Int64) : Int32 := if (lcmpW q1 (0 : Int64)) = (0 : Int32) then (1 : Int32) else if (lcmpW w_history_a0 q1) = (0 : Int32) then (1 : Int32) else (0 : Int32)
abbrev room4 : Room := { frames := 0, cells := 0, slots := 0, locals := 0 }
def Q4 (Z : State) (a0 : Addr) (q1 : Int64) (w_history_a0 : Int64) (h0 : Heap) (n0 : Nat) (v : Option Value) (h : Heap) (L : List Loc) : Prop := v = some (.int (f4 q1 w_history_a0)) ∧ L = [] ∧ h = h0
set_option maxRecDepth 65536 in
set_option maxHeartbeats 40000000 in
theorem rm4 (l : Launch) (Z : State) (aw : Array Value) (hw : ∀ d ∈ tables_1, d.before aw Z = true) (ws : List Jvm.Cond) (a0 : Addr) (q1 : Int64) (w_history_a0 : Int64) (h0 : Heap) (n0 : Nat) (Z0 : n0 ≤ h0.size) (F_history_a0 : Fld Z h0 a0 "com/example/quorumtree/quorumtree/core/quorum/Vote" "history" "J" (.long w_history_a0)) :
    MetFree l (⟨"com/example/quorumtree/quorumtree/core/quorum/Vote", "isOpenTo", "(J)Z"⟩ : MethodName) (head1 (Jvm.Cond.code (⟨"com/example/quorumtree/quorumtree/core/quorum/Vote", "isOpenTo", "(J)Z"⟩ : MethodName) prog_82_method_4_code 3 (some .boolean) :: ws) room4) (fun a U => a = #[(.ref a0), (.long q1)] ∧ Z.Warmed39 U.vm ∧ U.heap = h0) (fun _ _ _ _ _ => True) (fun _ U o U' => ∃ v L, o = .returned v ∧ Q4 Z a0 q1 w_history_a0 h0 n0 v U'.heap L ∧ FrameEnd U o U' L room4.cells room4.slots) := by
  refine MetFree.of_bodySF (plainFor_of_name pn_1) hisR ?_
  intro p e s m args below meth c s₁ Bd hml0 hP hK
  obtain ⟨rfl, hZ, hh⟩ := hP
  have hx := Bd.exec
  have hby := Bd.bytes
  have hml : c.maxLocals = 3 := hml0
  have hown : s.vm.findClass "com/example/quorumtree/quorumtree/core/quorum/Vote" = some m.cls := findClass_of_methodNamed Bd.named
  have hnm := (name_of_methodNamed Bd.named Bd.method).1
  have X0 : Stand p l e room4 s m #[(.ref a0), (.long q1)] below meth c s₁ [] 0 0 := Stand.of_body Bd
  have e0 : s₁.heap = h0 := by rw [← hh, Bd.state]; rfl
  have N0 := Fr.nil n0
  rw [ef_4 m a0 q1]
  refine go_in (s₁ := s₁) (Q := Q4 Z a0 q1 w_history_a0 h0 n0) fun F hF => ?_
  refine go (B := s₁.setTop (mkF m 1 #[.val (.ref a0), .val (.long q1), .second] [(.long q1)])) (fun _ k => XS.lloadN X0.here hx rfl (hb hby d4_0) rfl k) ?_
  refine go (B := s₁.setTop (mkF m 2 #[.val (.ref a0), .val (.long q1), .second] [(.long (0 : Int64)), (.long q1)])) (fun _ k => XS.lconst X0.here hx rfl (hb hby d4_1) k) ?_
  refine go (B := s₁.setTop (mkF m 3 #[.val (.ref a0), .val (.long q1), .second] [(.int (lcmpW q1 (0 : Int64)))])) (fun _ k => XS.lcmp X0.here hx rfl (hb hby d4_2) rfl k) ?_
  by_cases hc1 : (lcmpW q1 (0 : Int64)) = (0 : Int32)
  · refine go (B := s₁.setTop (mkF m 15 #[.val (.ref a0), .val (.long q1), .second] [])) (fun _ k => XS.ifYes X0.here hx rfl (pc0 := 3) (pc' := 15) rfl (hb hby d4_3) rfl ((if0 _ _).trans (teq hc1).1) (by decide) (by decide) k) ?_
    refine go (B := s₁.setTop (mkF m 16 #[.val (.ref a0), .val (.long q1), .second] [(.int (1 : Int32))])) (fun _ k => XS.iconst X0.here hx rfl (hb hby d4_15) k) ?_
    refine go (B := s₁.setTop (mkF m 20 #[.val (.ref a0), .val (.long q1), .second] [(.int (1 : Int32))])) (fun _ k => XS.goto X0.here hx rfl (pc0 := 16) (pc' := 20) rfl (hb hby d4_16) (by decide) (by decide) k) ?_
    have r2 : (f4 q1 w_history_a0) = (1 : Int32) := by unfold f4; rw [if_pos hc1]
    exact end_nar X0 hx Bd.notSynchronized (t := .boolean) Bd.returns (by simp) (hb hby d4_20) hF e0 (by decide) (by decide) ⟨(congrArg (fun z => some (Value.int z)) r2.symm), rfl, rfl⟩
  · refine go (B := s₁.setTop (mkF m 6 #[.val (.ref a0), .val (.long q1), .second] [])) (fun _ k => XS.ifNo X0.here hx rfl (hb hby d4_3) rfl ((if0 _ _).trans (feq hc1).1) k) ?_
    refine go (B := s₁.setTop (mkF m 7 #[.val (.ref a0), .val (.long q1), .second] [(.ref a0)])) (fun _ k => XS.aloadN X0.here hx rfl (hb hby d4_6) rfl rfl k) ?_
    obtain ⟨T3, X3, e3, st3⟩ := getF X0 hx hZ hown (host := "") (Or.inl (hw _ (List.mem_of_getElem? (i := 20) rfl))) Via.refl e0 F_history_a0 (g := (mkF m 7 #[.val (.ref a0), .val (.long q1), .second] [(.ref a0)])) rfl rfl (hb hby d4_7)
    refine go (B := T3.setTop (mkF m 10 #[.val (.ref a0), .val (.long q1), .second] [(.long w_history_a0)])) st3 ?_
    refine go (B := T3.setTop (mkF m 11 #[.val (.ref a0), .val (.long q1), .second] [(.long q1), (.long w_history_a0)])) (fun _ k => XS.lloadN X3.here hx rfl (hb hby d4_10) rfl k) ?_
    refine go (B := T3.setTop (mkF m 12 #[.val (.ref a0), .val (.long q1), .second] [(.int (lcmpW w_history_a0 q1))])) (fun _ k => XS.lcmp X3.here hx rfl (hb hby d4_11) rfl k) ?_
    by_cases hc4 : (lcmpW w_history_a0 q1) = (0 : Int32)
    · refine go (B := T3.setTop (mkF m 15 #[.val (.ref a0), .val (.long q1), .second] [])) (fun _ k => XS.ifNo X3.here hx rfl (hb hby d4_12) rfl ((if0 _ _).trans (teq hc4).2) k) ?_
      refine go (B := T3.setTop (mkF m 16 #[.val (.ref a0), .val (.long q1), .second] [(.int (1 : Int32))])) (fun _ k => XS.iconst X3.here hx rfl (hb hby d4_15) k) ?_
      refine go (B := T3.setTop (mkF m 20 #[.val (.ref a0), .val (.long q1), .second] [(.int (1 : Int32))])) (fun _ k => XS.goto X3.here hx rfl (pc0 := 16) (pc' := 20) rfl (hb hby d4_16) (by decide) (by decide) k) ?_
      have r5 : (f4 q1 w_history_a0) = (1 : Int32) := by unfold f4; rw [if_neg hc1, if_pos hc4]
      exact end_nar X3 hx Bd.notSynchronized (t := .boolean) Bd.returns (by simp) (hb hby d4_20) hF e3 (by decide) (by decide) ⟨(congrArg (fun z => some (Value.int z)) r5.symm), rfl, rfl⟩
    · refine go (B := T3.setTop (mkF m 19 #[.val (.ref a0), .val (.long q1), .second] [])) (fun _ k => XS.ifYes X3.here hx rfl (pc0 := 12) (pc' := 19) rfl (hb hby d4_12) rfl ((if0 _ _).trans (feq hc4).2) (by decide) (by decide) k) ?_
      refine go (B := T3.setTop (mkF m 20 #[.val (.ref a0), .val (.long q1), .second] [(.int (0 : Int32))])) (fun _ k => XS.iconst X3.here hx rfl (hb hby d4_19) k) ?_
      have r6 : (f4 q1 w_history_a0) = (0 : Int32) := by unfold f4; rw [if_neg hc1, if_neg hc4]
      exact end_nar X3 hx Bd.notSynchronized (t := .boolean) Bd.returns (by simp) (hb hby d4_20) hF e3 (by decide) (by decide) ⟨(congrArg (fun z => some (Value.int z)) r6.symm), rfl, rfl⟩
theorem pd_1 : parseMethodDescriptor "(JJJJ)V" = some ⟨[.long, .long, .long, .long], none⟩ := by decide +kernel
theorem pd_2 : parseMethodDescriptor "(J)Z" = some ⟨[.long], some .boolean⟩ := by decide +kernel
theorem pn_0 : plainName "com/example/quorumtree/quorumtree/core/quorum/VoteIsOpenToPinLaw" = true := by first | (simp [plainName, overriddenIn]; done) | decide +kernel
theorem ef_0 (m : MethodId) (q0 : Int64) (q1 : Int64) (q2 : Int64) (q3 : Int64) (q4 : Int64) (p5 : Int32) : entryFrame m #[(.long q0), (.long q1), (.long q2), (.long q3), (.long q4), (.int p5)] maxLocals = mkF m 0 #[.val (.long q0), .second, .val (.long q1), .second, .val (.long q2), .second, .val (.long q3), .second, .val (.long q4), .second, .val (.int p5), .unset, .unset, .unset, .unset, .unset, .unset] [] := by first | (simp [entryFrame, mkF, argsToLocals, Value.category, maxLocals]; done) | rfl
def f0_z0 (q3 : Int64) (q4 : Int64) (p5 : Int32) : Int64 := if (p5 &&& (3 : Int32)) = (0 : Int32) then (0 : Int64) else if (p5 &&& (3 : Int32)) = (1 : Int32) then q3 else q4
def f0_z1 (q3 : Int64) (q4 : Int64) (p5 : Int32) : Int32 := if (lcmpW (f0_z0 q3 q4 p5) (0 : Int64)) = (0 : Int32) then (1 : Int32) else if (lcmpW (f0_z0 q3 q4 p5) q3) = (0 : Int32) then (1 : Int32) else (0 : Int32)
def f0 (q3 : Int64) (q4 : Int64) (p5 : Int32) : Int32 := if (f4 (f0_z0 q3 q4 p5) q3) = (f0_z1 q3 q4 p5) then (1 : Int32) else (0 : Int32)
theorem own_law (q3 q4 : Int64) (p5 : Int32) : f0 q3 q4 p5 = 1 := by
  unfold f0 f4 f0_z1
  generalize f0_z0 q3 q4 p5 = a
  rw [if_pos]
  simp only [lw_eq]
  by_cases h : a = 0
  · rw [if_pos h, if_pos h]
  · rw [if_neg h, if_neg h]
    by_cases h2 : a = q3
    · rw [if_pos h2, if_pos h2.symm]
    · rw [if_neg h2, if_neg (fun q => h2 q.symm)]
def Q0 (Z : State) (q0 : Int64) (q1 : Int64) (q2 : Int64) (q3 : Int64) (q4 : Int64) (p5 : Int32) (h0 : Heap) (n0 : Nat) (v : Option Value) (h : Heap) (L : List Loc) : Prop := v = some (.int (1 : Int32)) ∧ Fr n0 L
set_option maxRecDepth 65536 in
set_option maxHeartbeats 40000000 in
theorem rm0 (l : Launch) (Z : State) (aw : Array Value) (hw : ∀ d ∈ tables_1, d.before aw Z = true) (ws : List Jvm.Cond) (q0 : Int64) (q1 : Int64) (q2 : Int64) (q3 : Int64) (q4 : Int64) (p5 : Int32) (h0 : Heap) (n0 : Nat) (Z0 : n0 ≤ h0.size) :
    MetFree l x (head1 (Jvm.Cond.code x code maxLocals ret :: ws) room_1) (fun a U => a = #[(.long q0), (.long q1), (.long q2), (.long q3), (.long q4), (.int p5)] ∧ Z.Warmed39 U.vm ∧ U.heap = h0) (fun _ _ _ _ _ => True) (fun _ U o U' => ∃ v L, o = .returned v ∧ Q0 Z q0 q1 q2 q3 q4 p5 h0 n0 v U'.heap L ∧ FrameEnd U o U' L room_1.cells room_1.slots) := by
  refine MetFree.of_bodySF (plainFor_of_name pn_0) hisR ?_
  intro p e s m args below meth c s₁ Bd hml0 hP hK
  obtain ⟨rfl, hZ, hh⟩ := hP
  have hx := Bd.exec
  have hby := Bd.bytes
  have hml : c.maxLocals = 17 := hml0
  have hown : s.vm.findClass "com/example/quorumtree/quorumtree/core/quorum/VoteIsOpenToPinLaw" = some m.cls := findClass_of_methodNamed Bd.named
  have hnm := (name_of_methodNamed Bd.named Bd.method).1
  have X0 : Stand p l e room_1 s m #[(.long q0), (.long q1), (.long q2), (.long q3), (.long q4), (.int p5)] below meth c s₁ [] 0 0 := Stand.of_body Bd
  have e0 : s₁.heap = h0 := by rw [← hh, Bd.state]; rfl
  have N0 := Fr.nil n0
  rw [ef_0 m q0 q1 q2 q3 q4 p5]
  refine go_in (s₁ := s₁) (Q := Q0 Z q0 q1 q2 q3 q4 p5 h0 n0) fun F hF => ?_
  refine go (B := s₁.setTop (mkF m 2 #[.val (.long q0), .second, .val (.long q1), .second, .val (.long q2), .second, .val (.long q3), .second, .val (.long q4), .second, .val (.int p5), .unset, .unset, .unset, .unset, .unset, .unset] [(.int p5)])) (fun _ k => XS.iload X0.here hx rfl (hb hby at_0) rfl k) ?_
  refine go (B := s₁.setTop (mkF m 3 #[.val (.long q0), .second, .val (.long q1), .second, .val (.long q2), .second, .val (.long q3), .second, .val (.long q4), .second, .val (.int p5), .unset, .unset, .unset, .unset, .unset, .unset] [(.int (3 : Int32)), (.int p5)])) (fun _ k => XS.iconst X0.here hx rfl (hb hby at_2) k) ?_
  refine go (B := s₁.setTop (mkF m 4 #[.val (.long q0), .second, .val (.long q1), .second, .val (.long q2), .second, .val (.long q3), .second, .val (.long q4), .second, .val (.int p5), .unset, .unset, .unset, .unset, .unset, .unset] [(.int (p5 &&& (3 : Int32)))])) (fun _ k => XS.iand X0.here hx rfl (hb hby at_3) rfl k) ?_
  refine go (B := s₁.setTop (mkF m 6 #[.val (.long q0), .second, .val (.long q1), .second, .val (.long q2), .second, .val (.long q3), .second, .val (.long q4), .second, .val (.int p5), .val (.int (p5 &&& (3 : Int32))), .unset, .unset, .unset, .unset, .unset] [])) (fun _ k => XS.istore X0.here hx rfl (hb hby at_4) rfl (l' := #[.val (.long q0), .second, .val (.long q1), .second, .val (.long q2), .second, .val (.long q3), .second, .val (.long q4), .second, .val (.int p5), .val (.int (p5 &&& (3 : Int32))), .unset, .unset, .unset, .unset, .unset]) rfl k) ?_
  refine go (B := s₁.setTop (mkF m 8 #[.val (.long q0), .second, .val (.long q1), .second, .val (.long q2), .second, .val (.long q3), .second, .val (.long q4), .second, .val (.int p5), .val (.int (p5 &&& (3 : Int32))), .unset, .unset, .unset, .unset, .unset] [(.int (p5 &&& (3 : Int32)))])) (fun _ k => XS.iload X0.here hx rfl (hb hby at_6) rfl k) ?_
  suffices Kj1 : ∀ (T1 : State) (L1 : List Loc), Stand p l e room_1 s m #[(.long q0), (.long q1), (.long q2), (.long q3), (.long q4), (.int p5)] below meth c T1 L1 0 0 → Fr n0 L1 → T1.heap = h0 → Go p.tables e below F (T1.setTop (mkF m 34 #[.val (.long q0), .second, .val (.long q1), .second, .val (.long q2), .second, .val (.long q3), .second, .val (.long q4), .second, .val (.int p5), .val (.int (p5 &&& (3 : Int32))), .val (.long (f0_z0 q3 q4 p5)), .second, .unset, .unset, .unset] [])) by
    by_cases hc2 : (p5 &&& (3 : Int32)) = (0 : Int32)
    · refine go (B := s₁.setTop (mkF m 11 #[.val (.long q0), .second, .val (.long q1), .second, .val (.long q2), .second, .val (.long q3), .second, .val (.long q4), .second, .val (.int p5), .val (.int (p5 &&& (3 : Int32))), .unset, .unset, .unset, .unset, .unset] [])) (fun _ k => XS.ifNo X0.here hx rfl (hb hby at_8) rfl ((if0 _ _).trans (teq hc2).2) k) ?_
      refine go (B := s₁.setTop (mkF m 12 #[.val (.long q0), .second, .val (.long q1), .second, .val (.long q2), .second, .val (.long q3), .second, .val (.long q4), .second, .val (.int p5), .val (.int (p5 &&& (3 : Int32))), .unset, .unset, .unset, .unset, .unset] [(.long (0 : Int64))])) (fun _ k => XS.lconst X0.here hx rfl (hb hby at_11) k) ?_
      refine go (B := s₁.setTop (mkF m 14 #[.val (.long q0), .second, .val (.long q1), .second, .val (.long q2), .second, .val (.long q3), .second, .val (.long q4), .second, .val (.int p5), .val (.int (p5 &&& (3 : Int32))), .val (.long (0 : Int64)), .second, .unset, .unset, .unset] [])) (fun _ k => XS.lstore X0.here hx rfl (hb hby at_12) rfl (l' := #[.val (.long q0), .second, .val (.long q1), .second, .val (.long q2), .second, .val (.long q3), .second, .val (.long q4), .second, .val (.int p5), .val (.int (p5 &&& (3 : Int32))), .val (.long (0 : Int64)), .second, .unset, .unset, .unset]) rfl k) ?_
      refine go (B := s₁.setTop (mkF m 34 #[.val (.long q0), .second, .val (.long q1), .second, .val (.long q2), .second, .val (.long q3), .second, .val (.long q4), .second, .val (.int p5), .val (.int (p5 &&& (3 : Int32))), .val (.long (0 : Int64)), .second, .unset, .unset, .unset] [])) (fun _ k => XS.goto X0.here hx rfl (pc0 := 14) (pc' := 34) rfl (hb hby at_14) (by decide) (by decide) k) ?_
      rw [show (f0_z0 q3 q4 p5) = (0 : Int64) from by unfold f0_z0; rw [if_pos hc2]] at Kj1
      exact Kj1 _ _ X0 N0 e0
    · refine go (B := s₁.setTop (mkF m 17 #[.val (.long q0), .second, .val (.long q1), .second, .val (.long q2), .second, .val (.long q3), .second, .val (.long q4), .second, .val (.int p5), .val (.int (p5 &&& (3 : Int32))), .unset, .unset, .unset, .unset, .unset] [])) (fun _ k => XS.ifYes X0.here hx rfl (pc0 := 8) (pc' := 17) rfl (hb hby at_8) rfl ((if0 _ _).trans (feq hc2).2) (by decide) (by decide) k) ?_
      refine go (B := s₁.setTop (mkF m 19 #[.val (.long q0), .second, .val (.long q1), .second, .val (.long q2), .second, .val (.long q3), .second, .val (.long q4), .second, .val (.int p5), .val (.int (p5 &&& (3 : Int32))), .unset, .unset, .unset, .unset, .unset] [(.int (p5 &&& (3 : Int32)))])) (fun _ k => XS.iload X0.here hx rfl (hb hby at_17) rfl k) ?_
      refine go (B := s₁.setTop (mkF m 20 #[.val (.long q0), .second, .val (.long q1), .second, .val (.long q2), .second, .val (.long q3), .second, .val (.long q4), .second, .val (.int p5), .val (.int (p5 &&& (3 : Int32))), .unset, .unset, .unset, .unset, .unset] [(.int (1 : Int32)), (.int (p5 &&& (3 : Int32)))])) (fun _ k => XS.iconst X0.here hx rfl (hb hby at_19) k) ?_
      by_cases hc3 : (p5 &&& (3 : Int32)) = (1 : Int32)
      · refine go (B := s₁.setTop (mkF m 23 #[.val (.long q0), .second, .val (.long q1), .second, .val (.long q2), .second, .val (.long q3), .second, .val (.long q4), .second, .val (.int p5), .val (.int (p5 &&& (3 : Int32))), .unset, .unset, .unset, .unset, .unset] [])) (fun _ k => XS.icmpNo X0.here hx rfl (hb hby at_20) rfl (teq hc3).2 k) ?_
        refine go (B := s₁.setTop (mkF m 25 #[.val (.long q0), .second, .val (.long q1), .second, .val (.long q2), .second, .val (.long q3), .second, .val (.long q4), .second, .val (.int p5), .val (.int (p5 &&& (3 : Int32))), .unset, .unset, .unset, .unset, .unset] [(.long q3)])) (fun _ k => XS.lload X0.here hx rfl (hb hby at_23) rfl k) ?_
        refine go (B := s₁.setTop (mkF m 27 #[.val (.long q0), .second, .val (.long q1), .second, .val (.long q2), .second, .val (.long q3), .second, .val (.long q4), .second, .val (.int p5), .val (.int (p5 &&& (3 : Int32))), .val (.long q3), .second, .unset, .unset, .unset] [])) (fun _ k => XS.lstore X0.here hx rfl (hb hby at_25) rfl (l' := #[.val (.long q0), .second, .val (.long q1), .second, .val (.long q2), .second, .val (.long q3), .second, .val (.long q4), .second, .val (.int p5), .val (.int (p5 &&& (3 : Int32))), .val (.long q3), .second, .unset, .unset, .unset]) rfl k) ?_
        refine go (B := s₁.setTop (mkF m 34 #[.val (.long q0), .second, .val (.long q1), .second, .val (.long q2), .second, .val (.long q3), .second, .val (.long q4), .second, .val (.int p5), .val (.int (p5 &&& (3 : Int32))), .val (.long q3), .second, .unset, .unset, .unset] [])) (fun _ k => XS.goto X0.here hx rfl (pc0 := 27) (pc' := 34) rfl (hb hby at_27) (by decide) (by decide) k) ?_
        rw [show (f0_z0 q3 q4 p5) = q3 from by unfold f0_z0; rw [if_neg hc2, if_pos hc3]] at Kj1
        exact Kj1 _ _ X0 N0 e0
      · refine go (B := s₁.setTop (mkF m 30 #[.val (.long q0), .second, .val (.long q1), .second, .val (.long q2), .second, .val (.long q3), .second, .val (.long q4), .second, .val (.int p5), .val (.int (p5 &&& (3 : Int32))), .unset, .unset, .unset, .unset, .unset] [])) (fun _ k => XS.icmpYes X0.here hx rfl (pc0 := 20) (pc' := 30) rfl (hb hby at_20) rfl (feq hc3).2 (by decide) (by decide) k) ?_
        refine go (B := s₁.setTop (mkF m 32 #[.val (.long q0), .second, .val (.long q1), .second, .val (.long q2), .second, .val (.long q3), .second, .val (.long q4), .second, .val (.int p5), .val (.int (p5 &&& (3 : Int32))), .unset, .unset, .unset, .unset, .unset] [(.long q4)])) (fun _ k => XS.lload X0.here hx rfl (hb hby at_30) rfl k) ?_
        refine go (B := s₁.setTop (mkF m 34 #[.val (.long q0), .second, .val (.long q1), .second, .val (.long q2), .second, .val (.long q3), .second, .val (.long q4), .second, .val (.int p5), .val (.int (p5 &&& (3 : Int32))), .val (.long q4), .second, .unset, .unset, .unset] [])) (fun _ k => XS.lstore X0.here hx rfl (hb hby at_32) rfl (l' := #[.val (.long q0), .second, .val (.long q1), .second, .val (.long q2), .second, .val (.long q3), .second, .val (.long q4), .second, .val (.int p5), .val (.int (p5 &&& (3 : Int32))), .val (.long q4), .second, .unset, .unset, .unset]) rfl k) ?_
        rw [show (f0_z0 q3 q4 p5) = q4 from by unfold f0_z0; rw [if_neg hc2, if_neg hc3]] at Kj1
        exact Kj1 _ _ X0 N0 e0
  intro T1 L1 X1 N1 e1
  obtain ⟨T4, h4, X4, e4, E4, A4, D4, -, st4⟩ := newO X1 hx hZ hown (hw _ (List.mem_of_getElem? (i := 0) rfl)) (hw _ (List.mem_of_getElem? (i := 1) rfl)) (hw _ (List.mem_of_getElem? (i := 2) rfl)) e1 (g := (mkF m 34 #[.val (.long q0), .second, .val (.long q1), .second, .val (.long q2), .second, .val (.long q3), .second, .val (.long q4), .second, .val (.int p5), .val (.int (p5 &&& (3 : Int32))), .val (.long (f0_z0 q3 q4 p5)), .second, .unset, .unset, .unset] [])) rfl (hb hby at_34) (by decide) (by decide)
  obtain ⟨b4, g4⟩ : ∃ z, z = h0.size := ⟨_, rfl⟩
  rw [← g4] at A4 D4 st4
  have g_b4 : n0 ≤ b4 := Nat.le_trans Z0 (Nat.le_of_eq g4.symm)
  have Z4 := Nat.le_trans Z0 E4.1
  have F_leader_b4 : Fld Z h4 b4 "com/example/quorumtree/quorumtree/core/quorum/Vote" "leader" "J" (.long (0 : Int64)) := D4 (Or.inr (hw _ (List.mem_of_getElem? (i := 15) rfl))) (ty := .long) (by decide)
  have F_zxid_b4 : Fld Z h4 b4 "com/example/quorumtree/quorumtree/core/quorum/Vote" "zxid" "J" (.long (0 : Int64)) := D4 (Or.inr (hw _ (List.mem_of_getElem? (i := 17) rfl))) (ty := .long) (by decide)
  have F_epoch_b4 : Fld Z h4 b4 "com/example/quorumtree/quorumtree/core/quorum/Vote" "epoch" "J" (.long (0 : Int64)) := D4 (Or.inr (hw _ (List.mem_of_getElem? (i := 19) rfl))) (ty := .long) (by decide)
  have F_history_b4 : Fld Z h4 b4 "com/example/quorumtree/quorumtree/core/quorum/Vote" "history" "J" (.long (0 : Int64)) := D4 (Or.inr (hw _ (List.mem_of_getElem? (i := 21) rfl))) (ty := .long) (by decide)
  have E_b4 := A4
  refine go (B := T4.setTop (mkF m 37 #[.val (.long q0), .second, .val (.long q1), .second, .val (.long q2), .second, .val (.long q3), .second, .val (.long q4), .second, .val (.int p5), .val (.int (p5 &&& (3 : Int32))), .val (.long (f0_z0 q3 q4 p5)), .second, .unset, .unset, .unset] [(.ref b4)])) st4 ?_
  refine go (B := T4.setTop (mkF m 38 #[.val (.long q0), .second, .val (.long q1), .second, .val (.long q2), .second, .val (.long q3), .second, .val (.long q4), .second, .val (.int p5), .val (.int (p5 &&& (3 : Int32))), .val (.long (f0_z0 q3 q4 p5)), .second, .unset, .unset, .unset] [(.ref b4), (.ref b4)])) (fun _ k => XS.dup X4.here hx rfl (hb hby at_37) rfl rfl k) ?_
  refine go (B := T4.setTop (mkF m 39 #[.val (.long q0), .second, .val (.long q1), .second, .val (.long q2), .second, .val (.long q3), .second, .val (.long q4), .second, .val (.int p5), .val (.int (p5 &&& (3 : Int32))), .val (.long (f0_z0 q3 q4 p5)), .second, .unset, .unset, .unset] [(.long q0), (.ref b4), (.ref b4)])) (fun _ k => XS.lloadN X4.here hx rfl (hb hby at_38) rfl k) ?_
  refine go (B := T4.setTop (mkF m 40 #[.val (.long q0), .second, .val (.long q1), .second, .val (.long q2), .second, .val (.long q3), .second, .val (.long q4), .second, .val (.int p5), .val (.int (p5 &&& (3 : Int32))), .val (.long (f0_z0 q3 q4 p5)), .second, .unset, .unset, .unset] [(.long q1), (.long q0), (.ref b4), (.ref b4)])) (fun _ k => XS.lloadN X4.here hx rfl (hb hby at_39) rfl k) ?_
  refine go (B := T4.setTop (mkF m 42 #[.val (.long q0), .second, .val (.long q1), .second, .val (.long q2), .second, .val (.long q3), .second, .val (.long q4), .second, .val (.int p5), .val (.int (p5 &&& (3 : Int32))), .val (.long (f0_z0 q3 q4 p5)), .second, .unset, .unset, .unset] [(.long q2), (.long q1), (.long q0), (.ref b4), (.ref b4)])) (fun _ k => XS.lload X4.here hx rfl (hb hby at_40) rfl k) ?_
  refine go (B := T4.setTop (mkF m 44 #[.val (.long q0), .second, .val (.long q1), .second, .val (.long q2), .second, .val (.long q3), .second, .val (.long q4), .second, .val (.int p5), .val (.int (p5 &&& (3 : Int32))), .val (.long (f0_z0 q3 q4 p5)), .second, .unset, .unset, .unset] [(.long q3), (.long q2), (.long q1), (.long q0), (.ref b4), (.ref b4)])) (fun _ k => XS.lload X4.here hx rfl (hb hby at_42) rfl k) ?_
  obtain ⟨_, _, ⟨T5, L5, k5, n5⟩, -, X5, ⟨Lc5, hQ5, l5, y5, z5⟩, st5⟩ := X4.specialBack hx (y := (⟨"com/example/quorumtree/quorumtree/core/quorum/Vote", "<init>", "(JJJJ)V"⟩ : MethodName)) rfl hown (mvT hZ (hw _ (List.mem_of_getElem? (i := 3) rfl))) (mvT hZ (hw _ (List.mem_of_getElem? (i := 4) rfl))) (mvT hZ (hw _ (List.mem_of_getElem? (i := 5) rfl))) (by decide) (backOf (W := 1) (rm1 l Z aw hw [] b4 q0 q1 q2 q3 h4 n0 Z4 F_leader_b4 F_zxid_b4 F_epoch_b4 F_history_b4 E_b4 g_b4) hZ (hw _ (List.mem_of_getElem? (i := 5) rfl)) (hw _ (List.mem_of_getElem? (i := 2) rfl)) (by decide) (by decide)) (g := (mkF m 44 #[.val (.long q0), .second, .val (.long q1), .second, .val (.long q2), .second, .val (.long q3), .second, .val (.long q4), .second, .val (.int p5), .val (.int (p5 &&& (3 : Int32))), .val (.long (f0_z0 q3 q4 p5)), .second, .unset, .unset, .unset] [(.long q3), (.long q2), (.long q1), (.long q0), (.ref b4), (.ref b4)])) rfl (by rw [hml]; rfl) (Steps.refl _) (a := b4) (argsL := [(.long q0), (.long q1), (.long q2), (.long q3)]) (rest := [(.ref b4)]) (lenOf pd_1 rfl) rfl (by show 2 * 0 + _ ≤ _; exact Nat.le_of_eq rfl) (hb hby at_44) (fun _ _ => ⟨rfl, e4, (by decide : 1 + 0 ≤ _), (by decide : 4 + 0 ≤ _)⟩)
  dsimp only [Pt.U, Pt.locs, Pt.cells, Pt.slots] at X5 l5 y5 z5 st5 hQ5
  subst l5 y5 z5
  obtain ⟨rfl, N5q, Kc5, o5_0, o5_1, o5_2, o5_3, o5_4⟩ := hQ5
  have E_b4_5 := E_b4.keep Kc5
  have N5 := Fr.app N1 N5q
  have Z5 := Nat.le_trans Z4 Kc5.1
  refine go (B := T5.setTop (mkF m 47 #[.val (.long q0), .second, .val (.long q1), .second, .val (.long q2), .second, .val (.long q3), .second, .val (.long q4), .second, .val (.int p5), .val (.int (p5 &&& (3 : Int32))), .val (.long (f0_z0 q3 q4 p5)), .second, .unset, .unset, .unset] [(.ref b4)])) (fun _ k => st5.trans k) ?_
  refine go (B := T5.setTop (mkF m 49 #[.val (.long q0), .second, .val (.long q1), .second, .val (.long q2), .second, .val (.long q3), .second, .val (.long q4), .second, .val (.int p5), .val (.int (p5 &&& (3 : Int32))), .val (.long (f0_z0 q3 q4 p5)), .second, .val (.ref b4), .unset, .unset] [])) (fun _ k => XS.astore X5.here hx rfl (hb hby at_47) rfl rfl (l' := #[.val (.long q0), .second, .val (.long q1), .second, .val (.long q2), .second, .val (.long q3), .second, .val (.long q4), .second, .val (.int p5), .val (.int (p5 &&& (3 : Int32))), .val (.long (f0_z0 q3 q4 p5)), .second, .val (.ref b4), .unset, .unset]) rfl k) ?_
  refine go (B := T5.setTop (mkF m 51 #[.val (.long q0), .second, .val (.long q1), .second, .val (.long q2), .second, .val (.long q3), .second, .val (.long q4), .second, .val (.int p5), .val (.int (p5 &&& (3 : Int32))), .val (.long (f0_z0 q3 q4 p5)), .second, .val (.ref b4), .unset, .unset] [(.ref b4)])) (fun _ k => XS.aload X5.here hx rfl (hb hby at_49) rfl rfl k) ?_
  refine go (B := T5.setTop (mkF m 53 #[.val (.long q0), .second, .val (.long q1), .second, .val (.long q2), .second, .val (.long q3), .second, .val (.long q4), .second, .val (.int p5), .val (.int (p5 &&& (3 : Int32))), .val (.long (f0_z0 q3 q4 p5)), .second, .val (.ref b4), .unset, .unset] [(.long (f0_z0 q3 q4 p5)), (.ref b4)])) (fun _ k => XS.lload X5.here hx rfl (hb hby at_51) rfl k) ?_
  obtain ⟨cq6, kq6, q6a, q6b, q6c⟩ := isOf hZ rfl o5_0
  obtain ⟨_, _, ⟨T6, L6, k6, n6⟩, -, X6, ⟨Lc6, hQ6, l6, y6, z6⟩, st6⟩ := X5.virtualBack hx (y := (⟨"com/example/quorumtree/quorumtree/core/quorum/Vote", "isOpenTo", "(J)Z"⟩ : MethodName)) (z := (⟨"com/example/quorumtree/quorumtree/core/quorum/Vote", "isOpenTo", "(J)Z"⟩ : MethodName)) hown (mvT hZ (hw _ (List.mem_of_getElem? (i := 22) rfl))) (mvT hZ (hw _ (List.mem_of_getElem? (i := 23) rfl))) (notFace_of_selects (args := #[]) (mvT hZ (hw _ (List.mem_of_getElem? (i := 25) rfl)))) (mvT hZ (hw _ (List.mem_of_getElem? (i := 25) rfl))) (mvT hZ (hw _ (List.mem_of_getElem? (i := 24) rfl))) (by decide) (backOf (W := 0) (rm4 l Z aw hw [] b4 (f0_z0 q3 q4 p5) q3 T5.heap n0 Z5 o5_4) hZ (hw _ (List.mem_of_getElem? (i := 26) rfl)) (hw _ (List.mem_of_getElem? (i := 2) rfl)) (by decide) (by decide)) q6a q6c (g := (mkF m 53 #[.val (.long q0), .second, .val (.long q1), .second, .val (.long q2), .second, .val (.long q3), .second, .val (.long q4), .second, .val (.int p5), .val (.int (p5 &&& (3 : Int32))), .val (.long (f0_z0 q3 q4 p5)), .second, .val (.ref b4), .unset, .unset] [(.long (f0_z0 q3 q4 p5)), (.ref b4)])) rfl (by rw [hml]; rfl) (Steps.refl _) (argsL := [(.long (f0_z0 q3 q4 p5))]) (rest := []) (lenOf pd_2 rfl) rfl (by show 2 * 0 + _ ≤ _; exact Nat.le_of_eq rfl) (hb hby at_53) (fun _ _ => ⟨rfl, rfl, (by decide : 1 + 0 ≤ _), (by decide : 4 + 0 ≤ _)⟩)
  dsimp only [Pt.U, Pt.locs, Pt.cells, Pt.slots] at X6 l6 y6 z6 st6 hQ6
  subst l6 y6 z6
  obtain ⟨rfl, rfl, e6⟩ := hQ6
  have N6 := Fr.app N5 (Fr.nil n0)
  refine go (B := T6.setTop (mkF m 56 #[.val (.long q0), .second, .val (.long q1), .second, .val (.long q2), .second, .val (.long q3), .second, .val (.long q4), .second, .val (.int p5), .val (.int (p5 &&& (3 : Int32))), .val (.long (f0_z0 q3 q4 p5)), .second, .val (.ref b4), .unset, .unset] [(.int (f4 (f0_z0 q3 q4 p5) q3))])) (fun _ k => st6.trans k) ?_
  refine go (B := T6.setTop (mkF m 58 #[.val (.long q0), .second, .val (.long q1), .second, .val (.long q2), .second, .val (.long q3), .second, .val (.long q4), .second, .val (.int p5), .val (.int (p5 &&& (3 : Int32))), .val (.long (f0_z0 q3 q4 p5)), .second, .val (.ref b4), .val (.int (f4 (f0_z0 q3 q4 p5) q3)), .unset] [])) (fun _ k => XS.istore X6.here hx rfl (hb hby at_56) rfl (l' := #[.val (.long q0), .second, .val (.long q1), .second, .val (.long q2), .second, .val (.long q3), .second, .val (.long q4), .second, .val (.int p5), .val (.int (p5 &&& (3 : Int32))), .val (.long (f0_z0 q3 q4 p5)), .second, .val (.ref b4), .val (.int (f4 (f0_z0 q3 q4 p5) q3)), .unset]) rfl k) ?_
  refine go (B := T6.setTop (mkF m 60 #[.val (.long q0), .second, .val (.long q1), .second, .val (.long q2), .second, .val (.long q3), .second, .val (.long q4), .second, .val (.int p5), .val (.int (p5 &&& (3 : Int32))), .val (.long (f0_z0 q3 q4 p5)), .second, .val (.ref b4), .val (.int (f4 (f0_z0 q3 q4 p5) q3)), .unset] [(.long (f0_z0 q3 q4 p5))])) (fun _ k => XS.lload X6.here hx rfl (hb hby at_58) rfl k) ?_
  refine go (B := T6.setTop (mkF m 61 #[.val (.long q0), .second, .val (.long q1), .second, .val (.long q2), .second, .val (.long q3), .second, .val (.long q4), .second, .val (.int p5), .val (.int (p5 &&& (3 : Int32))), .val (.long (f0_z0 q3 q4 p5)), .second, .val (.ref b4), .val (.int (f4 (f0_z0 q3 q4 p5) q3)), .unset] [(.long (0 : Int64)), (.long (f0_z0 q3 q4 p5))])) (fun _ k => XS.lconst X6.here hx rfl (hb hby at_60) k) ?_
  refine go (B := T6.setTop (mkF m 62 #[.val (.long q0), .second, .val (.long q1), .second, .val (.long q2), .second, .val (.long q3), .second, .val (.long q4), .second, .val (.int p5), .val (.int (p5 &&& (3 : Int32))), .val (.long (f0_z0 q3 q4 p5)), .second, .val (.ref b4), .val (.int (f4 (f0_z0 q3 q4 p5) q3)), .unset] [(.int (lcmpW (f0_z0 q3 q4 p5) (0 : Int64)))])) (fun _ k => XS.lcmp X6.here hx rfl (hb hby at_61) rfl k) ?_
  suffices Kj7 : ∀ (T7 : State) (L7 : List Loc), Stand p l e room_1 s m #[(.long q0), (.long q1), (.long q2), (.long q3), (.long q4), (.int p5)] below meth c T7 L7 1 4 → Fr n0 L7 → T7.heap = T5.heap → Go p.tables e below F (T7.setTop (mkF m 88 #[.val (.long q0), .second, .val (.long q1), .second, .val (.long q2), .second, .val (.long q3), .second, .val (.long q4), .second, .val (.int p5), .val (.int (p5 &&& (3 : Int32))), .val (.long (f0_z0 q3 q4 p5)), .second, .val (.ref b4), .val (.int (f4 (f0_z0 q3 q4 p5) q3)), .val (.int (f0_z1 q3 q4 p5))] [])) by
    by_cases hc8 : (lcmpW (f0_z0 q3 q4 p5) (0 : Int64)) = (0 : Int32)
    · refine go (B := T6.setTop (mkF m 65 #[.val (.long q0), .second, .val (.long q1), .second, .val (.long q2), .second, .val (.long q3), .second, .val (.long q4), .second, .val (.int p5), .val (.int (p5 &&& (3 : Int32))), .val (.long (f0_z0 q3 q4 p5)), .second, .val (.ref b4), .val (.int (f4 (f0_z0 q3 q4 p5) q3)), .unset] [])) (fun _ k => XS.ifNo X6.here hx rfl (hb hby at_62) rfl ((if0 _ _).trans (teq hc8).2) k) ?_
      refine go (B := T6.setTop (mkF m 66 #[.val (.long q0), .second, .val (.long q1), .second, .val (.long q2), .second, .val (.long q3), .second, .val (.long q4), .second, .val (.int p5), .val (.int (p5 &&& (3 : Int32))), .val (.long (f0_z0 q3 q4 p5)), .second, .val (.ref b4), .val (.int (f4 (f0_z0 q3 q4 p5) q3)), .unset] [(.int (1 : Int32))])) (fun _ k => XS.iconst X6.here hx rfl (hb hby at_65) k) ?_
      refine go (B := T6.setTop (mkF m 68 #[.val (.long q0), .second, .val (.long q1), .second, .val (.long q2), .second, .val (.long q3), .second, .val (.long q4), .second, .val (.int p5), .val (.int (p5 &&& (3 : Int32))), .val (.long (f0_z0 q3 q4 p5)), .second, .val (.ref b4), .val (.int (f4 (f0_z0 q3 q4 p5) q3)), .val (.int (1 : Int32))] [])) (fun _ k => XS.istore X6.here hx rfl (hb hby at_66) rfl (l' := #[.val (.long q0), .second, .val (.long q1), .second, .val (.long q2), .second, .val (.long q3), .second, .val (.long q4), .second, .val (.int p5), .val (.int (p5 &&& (3 : Int32))), .val (.long (f0_z0 q3 q4 p5)), .second, .val (.ref b4), .val (.int (f4 (f0_z0 q3 q4 p5) q3)), .val (.int (1 : Int32))]) rfl k) ?_
      refine go (B := T6.setTop (mkF m 88 #[.val (.long q0), .second, .val (.long q1), .second, .val (.long q2), .second, .val (.long q3), .second, .val (.long q4), .second, .val (.int p5), .val (.int (p5 &&& (3 : Int32))), .val (.long (f0_z0 q3 q4 p5)), .second, .val (.ref b4), .val (.int (f4 (f0_z0 q3 q4 p5) q3)), .val (.int (1 : Int32))] [])) (fun _ k => XS.goto X6.here hx rfl (pc0 := 68) (pc' := 88) rfl (hb hby at_68) (by decide) (by decide) k) ?_
      rw [show (f0_z1 q3 q4 p5) = (1 : Int32) from by unfold f0_z1; rw [if_pos hc8]] at Kj7
      exact Kj7 _ _ X6 N6 e6
    · refine go (B := T6.setTop (mkF m 71 #[.val (.long q0), .second, .val (.long q1), .second, .val (.long q2), .second, .val (.long q3), .second, .val (.long q4), .second, .val (.int p5), .val (.int (p5 &&& (3 : Int32))), .val (.long (f0_z0 q3 q4 p5)), .second, .val (.ref b4), .val (.int (f4 (f0_z0 q3 q4 p5) q3)), .unset] [])) (fun _ k => XS.ifYes X6.here hx rfl (pc0 := 62) (pc' := 71) rfl (hb hby at_62) rfl ((if0 _ _).trans (feq hc8).2) (by decide) (by decide) k) ?_
      refine go (B := T6.setTop (mkF m 73 #[.val (.long q0), .second, .val (.long q1), .second, .val (.long q2), .second, .val (.long q3), .second, .val (.long q4), .second, .val (.int p5), .val (.int (p5 &&& (3 : Int32))), .val (.long (f0_z0 q3 q4 p5)), .second, .val (.ref b4), .val (.int (f4 (f0_z0 q3 q4 p5) q3)), .unset] [(.long (f0_z0 q3 q4 p5))])) (fun _ k => XS.lload X6.here hx rfl (hb hby at_71) rfl k) ?_
      refine go (B := T6.setTop (mkF m 75 #[.val (.long q0), .second, .val (.long q1), .second, .val (.long q2), .second, .val (.long q3), .second, .val (.long q4), .second, .val (.int p5), .val (.int (p5 &&& (3 : Int32))), .val (.long (f0_z0 q3 q4 p5)), .second, .val (.ref b4), .val (.int (f4 (f0_z0 q3 q4 p5) q3)), .unset] [(.long q3), (.long (f0_z0 q3 q4 p5))])) (fun _ k => XS.lload X6.here hx rfl (hb hby at_73) rfl k) ?_
      refine go (B := T6.setTop (mkF m 76 #[.val (.long q0), .second, .val (.long q1), .second, .val (.long q2), .second, .val (.long q3), .second, .val (.long q4), .second, .val (.int p5), .val (.int (p5 &&& (3 : Int32))), .val (.long (f0_z0 q3 q4 p5)), .second, .val (.ref b4), .val (.int (f4 (f0_z0 q3 q4 p5) q3)), .unset] [(.int (lcmpW (f0_z0 q3 q4 p5) q3))])) (fun _ k => XS.lcmp X6.here hx rfl (hb hby at_75) rfl k) ?_
      by_cases hc9 : (lcmpW (f0_z0 q3 q4 p5) q3) = (0 : Int32)
      · refine go (B := T6.setTop (mkF m 79 #[.val (.long q0), .second, .val (.long q1), .second, .val (.long q2), .second, .val (.long q3), .second, .val (.long q4), .second, .val (.int p5), .val (.int (p5 &&& (3 : Int32))), .val (.long (f0_z0 q3 q4 p5)), .second, .val (.ref b4), .val (.int (f4 (f0_z0 q3 q4 p5) q3)), .unset] [])) (fun _ k => XS.ifNo X6.here hx rfl (hb hby at_76) rfl ((if0 _ _).trans (teq hc9).2) k) ?_
        refine go (B := T6.setTop (mkF m 80 #[.val (.long q0), .second, .val (.long q1), .second, .val (.long q2), .second, .val (.long q3), .second, .val (.long q4), .second, .val (.int p5), .val (.int (p5 &&& (3 : Int32))), .val (.long (f0_z0 q3 q4 p5)), .second, .val (.ref b4), .val (.int (f4 (f0_z0 q3 q4 p5) q3)), .unset] [(.int (1 : Int32))])) (fun _ k => XS.iconst X6.here hx rfl (hb hby at_79) k) ?_
        refine go (B := T6.setTop (mkF m 82 #[.val (.long q0), .second, .val (.long q1), .second, .val (.long q2), .second, .val (.long q3), .second, .val (.long q4), .second, .val (.int p5), .val (.int (p5 &&& (3 : Int32))), .val (.long (f0_z0 q3 q4 p5)), .second, .val (.ref b4), .val (.int (f4 (f0_z0 q3 q4 p5) q3)), .val (.int (1 : Int32))] [])) (fun _ k => XS.istore X6.here hx rfl (hb hby at_80) rfl (l' := #[.val (.long q0), .second, .val (.long q1), .second, .val (.long q2), .second, .val (.long q3), .second, .val (.long q4), .second, .val (.int p5), .val (.int (p5 &&& (3 : Int32))), .val (.long (f0_z0 q3 q4 p5)), .second, .val (.ref b4), .val (.int (f4 (f0_z0 q3 q4 p5) q3)), .val (.int (1 : Int32))]) rfl k) ?_
        refine go (B := T6.setTop (mkF m 88 #[.val (.long q0), .second, .val (.long q1), .second, .val (.long q2), .second, .val (.long q3), .second, .val (.long q4), .second, .val (.int p5), .val (.int (p5 &&& (3 : Int32))), .val (.long (f0_z0 q3 q4 p5)), .second, .val (.ref b4), .val (.int (f4 (f0_z0 q3 q4 p5) q3)), .val (.int (1 : Int32))] [])) (fun _ k => XS.goto X6.here hx rfl (pc0 := 82) (pc' := 88) rfl (hb hby at_82) (by decide) (by decide) k) ?_
        rw [show (f0_z1 q3 q4 p5) = (1 : Int32) from by unfold f0_z1; rw [if_neg hc8, if_pos hc9]] at Kj7
        exact Kj7 _ _ X6 N6 e6
      · refine go (B := T6.setTop (mkF m 85 #[.val (.long q0), .second, .val (.long q1), .second, .val (.long q2), .second, .val (.long q3), .second, .val (.long q4), .second, .val (.int p5), .val (.int (p5 &&& (3 : Int32))), .val (.long (f0_z0 q3 q4 p5)), .second, .val (.ref b4), .val (.int (f4 (f0_z0 q3 q4 p5) q3)), .unset] [])) (fun _ k => XS.ifYes X6.here hx rfl (pc0 := 76) (pc' := 85) rfl (hb hby at_76) rfl ((if0 _ _).trans (feq hc9).2) (by decide) (by decide) k) ?_
        refine go (B := T6.setTop (mkF m 86 #[.val (.long q0), .second, .val (.long q1), .second, .val (.long q2), .second, .val (.long q3), .second, .val (.long q4), .second, .val (.int p5), .val (.int (p5 &&& (3 : Int32))), .val (.long (f0_z0 q3 q4 p5)), .second, .val (.ref b4), .val (.int (f4 (f0_z0 q3 q4 p5) q3)), .unset] [(.int (0 : Int32))])) (fun _ k => XS.iconst X6.here hx rfl (hb hby at_85) k) ?_
        refine go (B := T6.setTop (mkF m 88 #[.val (.long q0), .second, .val (.long q1), .second, .val (.long q2), .second, .val (.long q3), .second, .val (.long q4), .second, .val (.int p5), .val (.int (p5 &&& (3 : Int32))), .val (.long (f0_z0 q3 q4 p5)), .second, .val (.ref b4), .val (.int (f4 (f0_z0 q3 q4 p5) q3)), .val (.int (0 : Int32))] [])) (fun _ k => XS.istore X6.here hx rfl (hb hby at_86) rfl (l' := #[.val (.long q0), .second, .val (.long q1), .second, .val (.long q2), .second, .val (.long q3), .second, .val (.long q4), .second, .val (.int p5), .val (.int (p5 &&& (3 : Int32))), .val (.long (f0_z0 q3 q4 p5)), .second, .val (.ref b4), .val (.int (f4 (f0_z0 q3 q4 p5) q3)), .val (.int (0 : Int32))]) rfl k) ?_
        rw [show (f0_z1 q3 q4 p5) = (0 : Int32) from by unfold f0_z1; rw [if_neg hc8, if_neg hc9]] at Kj7
        exact Kj7 _ _ X6 N6 e6
  intro T7 L7 X7 N7 e7
  refine go (B := T7.setTop (mkF m 90 #[.val (.long q0), .second, .val (.long q1), .second, .val (.long q2), .second, .val (.long q3), .second, .val (.long q4), .second, .val (.int p5), .val (.int (p5 &&& (3 : Int32))), .val (.long (f0_z0 q3 q4 p5)), .second, .val (.ref b4), .val (.int (f4 (f0_z0 q3 q4 p5) q3)), .val (.int (f0_z1 q3 q4 p5))] [(.int (f4 (f0_z0 q3 q4 p5) q3))])) (fun _ k => XS.iload X7.here hx rfl (hb hby at_88) rfl k) ?_
  refine go (B := T7.setTop (mkF m 92 #[.val (.long q0), .second, .val (.long q1), .second, .val (.long q2), .second, .val (.long q3), .second, .val (.long q4), .second, .val (.int p5), .val (.int (p5 &&& (3 : Int32))), .val (.long (f0_z0 q3 q4 p5)), .second, .val (.ref b4), .val (.int (f4 (f0_z0 q3 q4 p5) q3)), .val (.int (f0_z1 q3 q4 p5))] [(.int (f0_z1 q3 q4 p5)), (.int (f4 (f0_z0 q3 q4 p5) q3))])) (fun _ k => XS.iload X7.here hx rfl (hb hby at_90) rfl k) ?_
  by_cases hc10 : (f4 (f0_z0 q3 q4 p5) q3) = (f0_z1 q3 q4 p5)
  · refine go (B := T7.setTop (mkF m 95 #[.val (.long q0), .second, .val (.long q1), .second, .val (.long q2), .second, .val (.long q3), .second, .val (.long q4), .second, .val (.int p5), .val (.int (p5 &&& (3 : Int32))), .val (.long (f0_z0 q3 q4 p5)), .second, .val (.ref b4), .val (.int (f4 (f0_z0 q3 q4 p5) q3)), .val (.int (f0_z1 q3 q4 p5))] [])) (fun _ k => XS.icmpNo X7.here hx rfl (hb hby at_92) rfl (teq hc10).2 k) ?_
    refine go (B := T7.setTop (mkF m 96 #[.val (.long q0), .second, .val (.long q1), .second, .val (.long q2), .second, .val (.long q3), .second, .val (.long q4), .second, .val (.int p5), .val (.int (p5 &&& (3 : Int32))), .val (.long (f0_z0 q3 q4 p5)), .second, .val (.ref b4), .val (.int (f4 (f0_z0 q3 q4 p5) q3)), .val (.int (f0_z1 q3 q4 p5))] [(.int (1 : Int32))])) (fun _ k => XS.iconst X7.here hx rfl (hb hby at_95) k) ?_
    refine go (B := T7.setTop (mkF m 100 #[.val (.long q0), .second, .val (.long q1), .second, .val (.long q2), .second, .val (.long q3), .second, .val (.long q4), .second, .val (.int p5), .val (.int (p5 &&& (3 : Int32))), .val (.long (f0_z0 q3 q4 p5)), .second, .val (.ref b4), .val (.int (f4 (f0_z0 q3 q4 p5) q3)), .val (.int (f0_z1 q3 q4 p5))] [(.int (1 : Int32))])) (fun _ k => XS.goto X7.here hx rfl (pc0 := 96) (pc' := 100) rfl (hb hby at_96) (by decide) (by decide) k) ?_
    have r11 : (f0 q3 q4 p5) = (1 : Int32) := by unfold f0; rw [if_pos hc10]
    exact end_nar X7 hx Bd.notSynchronized (t := .boolean) Bd.returns (by simp) (hb hby at_100) hF e7 (by decide) (by decide) ⟨(congrArg (fun z => some (Value.int z)) (r11.symm.trans (own_law q3 q4 p5))), N7⟩
  · refine go (B := T7.setTop (mkF m 99 #[.val (.long q0), .second, .val (.long q1), .second, .val (.long q2), .second, .val (.long q3), .second, .val (.long q4), .second, .val (.int p5), .val (.int (p5 &&& (3 : Int32))), .val (.long (f0_z0 q3 q4 p5)), .second, .val (.ref b4), .val (.int (f4 (f0_z0 q3 q4 p5) q3)), .val (.int (f0_z1 q3 q4 p5))] [])) (fun _ k => XS.icmpYes X7.here hx rfl (pc0 := 92) (pc' := 99) rfl (hb hby at_92) rfl (feq hc10).2 (by decide) (by decide) k) ?_
    refine go (B := T7.setTop (mkF m 100 #[.val (.long q0), .second, .val (.long q1), .second, .val (.long q2), .second, .val (.long q3), .second, .val (.long q4), .second, .val (.int p5), .val (.int (p5 &&& (3 : Int32))), .val (.long (f0_z0 q3 q4 p5)), .second, .val (.ref b4), .val (.int (f4 (f0_z0 q3 q4 p5) q3)), .val (.int (f0_z1 q3 q4 p5))] [(.int (0 : Int32))])) (fun _ k => XS.iconst X7.here hx rfl (hb hby at_99) k) ?_
    have r12 : (f0 q3 q4 p5) = (0 : Int32) := by unfold f0; rw [if_neg hc10]
    exact end_nar X7 hx Bd.notSynchronized (t := .boolean) Bd.returns (by simp) (hb hby at_100) hF e7 (by decide) (by decide) ⟨(congrArg (fun z => some (Value.int z)) (r12.symm.trans (own_law q3 q4 p5))), N7⟩
set_option maxRecDepth 65536 in
set_option maxHeartbeats 40000000 in
theorem comes_1 {Post : Tables → Env → Array Value → State → Outcome → State → Prop} (hpost : ∀ tb e args s v u, (limb_1_1.after args s (.returned v) u = true ∧ limb_1_2.after args s (.returned v) u = true ∧ True) → FrameEnd s (.returned v) u (Jvm.fieldLocs frame_1_writes args s ++ Jvm.arrayLocs frame_1_arrays args s ++ Jvm.staticLocs frame_1_statics s) 16 128 → Post tb e args s (.returned v) u) :
    ArmFor flags0 classFile x code maxLocals ret World_1 tables_1 room_1 Calls_1 rest_1 Pre_1 Post := by
  intro l hfl _ _ p e ha hc hk s m args below hf hA hF happ hP
  obtain ⟨hcalls, hrest, hpre⟩ := hP
  obtain ⟨-, -, -, hnamed, -, -, -, hat⟩ := (Spec.applies_iff hf).mp happ
  obtain ⟨hg, hn⟩ := and_e (Cond.before_iff.mp (show (Jvm.Cond.and given_1 narrow_1).before args s = true from hpre))
  obtain ⟨gg1, gg2⟩ := and_e hg
  obtain ⟨gg3, gg4⟩ := and_e gg2
  obtain ⟨gg5, gg6⟩ := and_e gg4
  obtain ⟨gg7, gg8⟩ := and_e gg6
  obtain ⟨gg9, gg10⟩ := and_e gg8
  obtain ⟨gg11, gg12⟩ := and_e gg10
  obtain ⟨w0, w1, w2, w3, w4, w5, rfl⟩ : ∃ w0 w1 w2 w3 w4 w5 : Value, args = #[w0, w1, w2, w3, w4, w5] := by
    have hs : args.size = 6 := by simpa [Cond.value, given_1] using gg1
    obtain ⟨L⟩ := args
    match L, hs with
    | [w0, w1, w2, w3, w4, w5], _ => exact ⟨w0, w1, w2, w3, w4, w5, rfl⟩
  have hw := fun d (hd : d ∈ tables_1) => atoms_spec (ws := Jvm.Cond.code x code maxLocals ret :: tables_1) hat d (List.mem_cons_of_mem _ hd)
  have hfit : Fit s := fun {y c} hc i hi => by
    obtain ⟨ha, rfl⟩ := Array.getElem?_eq_some_iff.mp hc
    have q := List.all_eq_true.mp ((Array.all_eq_true_iff_forall_mem.mp hF) _ (Array.getElem_mem ha)) i (List.mem_range.mpr hi)
    simpa [Array.getElem?_eq_getElem hi] using q
  obtain ⟨i0, ei0⟩ := isL_v gg3
  obtain rfl : w0 = (.long i0) := Option.some.inj ei0
  obtain ⟨i1, ei1⟩ := isL_v gg5
  obtain rfl : w1 = (.long i1) := Option.some.inj ei1
  obtain ⟨i2, ei2⟩ := isL_v gg7
  obtain rfl : w2 = (.long i2) := Option.some.inj ei2
  obtain ⟨i3, ei3⟩ := isL_v gg9
  obtain rfl : w3 = (.long i3) := Option.some.inj ei3
  obtain ⟨i4, ei4⟩ := isL_v gg11
  obtain rfl : w4 = (.long i4) := Option.some.inj ei4
  obtain ⟨i5, ei5⟩ := is_v gg12
  obtain rfl : w5 = (.int i5) := Option.some.inj ei5
  obtain ⟨n, o, h1, h2, h3, _, L, rfl, ⟨rfl, N⟩, hq⟩ := rm0 l s _ hw tables_1 i0 i1 i2 i3 i4 i5 s.heap s.heap.size (Nat.le_refl _)  p e ha hc hk s m _ below hf ((Spec.applies_iff_loose hf).mp happ).1 ⟨rfl, State.Warmed39.refl s, rfl⟩ trivial
  refine ⟨n, _, h1, h2, h3, hpost _ _ _ _ _ _ ⟨Cond.after_iff.mpr rfl, Cond.after_iff.mpr (eq_i res_at (Term.int_eval (1)) rfl), trivial⟩ ⟨hq.1, hq.2.1, (hq.2.2.sift fun y hy => Or.inr (N y hy)).mono (by decide) (by decide)⟩⟩
theorem main_1_1 : Claimed_1_1 := comes_1 fun _ _ _ _ _ _ h hF => ⟨h.1, hF⟩
theorem main_1_2 : Claimed_1_2 := comes_1 fun _ _ _ _ _ _ h hF => ⟨h.2.1, hF⟩
end Jvm.Pilot.@@N@@
namespace Jvm.Pilot.@@N@@
open Jvm Jvm.ClassFile Sem Op Lib Jvm.Free Jvm.Stand Jvm.Pilot.@@N@@.Jvm.D
/-! MADE BY PROGRAM (witnessworld.py) out of the Statement's table words and the real class files: 11 classes; the members and pool entries that the words name. The judged class is class 1, her method 1. -/
namespace start1
open Jvm.ClassFile
def u (s : String) : CpInfo := .utf8 (stringToUtf16 s)
/-- a pool by its gaps: so many unusable entries, then the entry; so many at the end -/
def gap : Nat → List CpInfo → List CpInfo
  | 0, r => r
  | n + 1, r => .unusable :: gap n r
def poolList (es : List (Nat × CpInfo)) (last : Nat) : List CpInfo := es.foldr (fun e r => gap e.1 (e.2 :: r)) (gap last [])
def pool (es : List (Nat × CpInfo)) (last : Nat) : Array CpInfo := ⟨poolList es last⟩
def fileOf (pool : Array CpInfo) (this : Nat) (attrs : Array Attribute := #[]) (ms : Array MethodInfo := #[]) (fl : Nat := 33) (sup : Nat := 0) (ifs : Array Nat := #[]) (fds : Array FieldInfo := #[]) : ClassFile where
  minorVersion := 0
  majorVersion := 65
  constantPool := pool
  accessFlags := fl
  thisClass := this
  superClass := sup
  interfaces := ifs
  fields := fds
  methods := ms
  attributes := attrs
def plain (name : String) (sup : Option ClassId) : Class where
  name := name
  kind := .ordinary
  loader := none
  accessFlags := 33
  super := sup
  interfaces := #[]
  cf := none
  fields := #[]
  methods := #[]
  instanceTypes := #[]
  staticTypes := #[]
  resolved := #[]
  callSites := []
  init := .initialized
  statics := none
  mirror := none

def pool0 : Array CpInfo := pool [(5, u "<init>"), (0, u "()V"), (1, .class_ 10), (1, u "java/lang/Object")] 113

def k0c0 : Code := { maxStack := 0, maxLocals := 1, code := object_method_1_code, exceptionTable := #[], attributes := #[] }
def k0m0 : Method := { name := "<init>", desc := "()V", sig := { parameters := [], returnType := none }, accessFlags := 1, code := some k0c0 }
/-- java/lang/Object -/
def k0 : Class := { plain "java/lang/Object" none with
  accessFlags := 33
  interfaces := #[]
  cf := some (fileOf pool0 8 #[] #[{ accessFlags := 1, nameIndex := 5, descriptorIndex := 6, attributes := #[] }] 33 0 #[] #[])
  fields := #[]
  methods := #[k0m0]
  instanceTypes := #[]
  staticTypes := #[]
  resolved := Array.replicate 124 none
  statics := none }

def pool1 : Array CpInfo := pool [(2, .class_ 4), (1, u "java/lang/Object"), (0, u "<init>"), (0, u "()V"), (0, .class_ 8), (0, u "com/example/quorumtree/quorumtree/core/quorum/Vote"), (0, .methodref 7 10), (0, .nameAndType 5 11), (0, u "(JJJJ)V"), (0, .methodref 7 13), (0, .nameAndType 14 15), (0, u "isOpenTo"), (0, u "(J)Z"), (0, .class_ 17), (0, u "com/example/quorumtree/quorumtree/core/quorum/VoteIsOpenToPinLaw"), (2, u "law"), (0, u "(JJJJJI)Z")] 3

def k1m0 : Method := { name := "<init>", desc := "()V", sig := { parameters := [], returnType := none }, accessFlags := 1, code := none }
def k1c1 : Code := { maxStack := 10, maxLocals := 17, code := code, exceptionTable := #[], attributes := #[] }
def k1m1 : Method := { name := "law", desc := "(JJJJJI)Z", sig := { parameters := [.long, .long, .long, .long, .long, .int], returnType := some .boolean }, accessFlags := 9, code := some k1c1 }
/-- com/example/quorumtree/quorumtree/core/quorum/VoteIsOpenToPinLaw -/
def k1 : Class := { plain "com/example/quorumtree/quorumtree/core/quorum/VoteIsOpenToPinLaw" (some 0) with
  accessFlags := 49
  interfaces := #[]
  cf := some (fileOf pool1 16 #[] #[{ accessFlags := 1, nameIndex := 5, descriptorIndex := 6, attributes := #[] }, { accessFlags := 9, nameIndex := 20, descriptorIndex := 21, attributes := #[] }] 49 2 #[] #[])
  fields := #[]
  methods := #[k1m0, k1m1]
  instanceTypes := #[]
  staticTypes := #[]
  resolved := Array.replicate 25 none
  statics := none }

def pool2 : Array CpInfo := pool [(1, .methodref 2 3), (0, .class_ 4), (0, .nameAndType 5 6), (0, u "java/lang/Object"), (0, u "<init>"), (0, u "()V"), (0, .class_ 8), (0, u "java/lang/Record")] 13

def k2c0 : Code := { maxStack := 1, maxLocals := 1, code := jdk_30_method_1_code, exceptionTable := #[], attributes := #[] }
def k2m0 : Method := { name := "<init>", desc := "()V", sig := { parameters := [], returnType := none }, accessFlags := 4, code := some k2c0 }
/-- java/lang/Record -/
def k2 : Class := { plain "java/lang/Record" (some 0) with
  accessFlags := 1057
  interfaces := #[]
  cf := some (fileOf pool2 7 #[] #[{ accessFlags := 4, nameIndex := 5, descriptorIndex := 6, attributes := #[] }] 1057 2 #[] #[])
  fields := #[]
  methods := #[k2m0]
  instanceTypes := #[]
  staticTypes := #[]
  resolved := Array.replicate 22 none
  statics := none }

def pool3 : Array CpInfo := pool [(1, .class_ 2), (0, u "java/lang/Comparable"), (0, .class_ 4), (0, u "java/lang/Object")] 7

/-- java/lang/Comparable -/
def k3 : Class := { plain "java/lang/Comparable" (some 0) with
  accessFlags := 1537
  interfaces := #[]
  cf := some (fileOf pool3 1 #[] #[] 1537 3 #[] #[])
  fields := #[]
  methods := #[]
  instanceTypes := #[]
  staticTypes := #[]
  resolved := Array.replicate 12 none
  statics := none }

def pool4 : Array CpInfo := pool [(1, .methodref 2 3), (0, .class_ 4), (0, .nameAndType 5 6), (0, u "java/lang/Record"), (0, u "<init>"), (0, u "()V"), (0, .fieldref 8 9), (0, .class_ 10), (0, .nameAndType 11 12), (0, u "com/example/quorumtree/quorumtree/core/quorum/Vote"), (0, u "leader"), (0, u "J"), (0, .fieldref 8 14), (0, .nameAndType 15 12), (0, u "zxid"), (0, .fieldref 8 17), (0, .nameAndType 18 12), (0, u "epoch"), (0, .fieldref 8 20), (0, .nameAndType 21 12), (0, u "history"), (2, u "ORDER"), (0, u "Ljava/util/Comparator;"), (34, .class_ 61), (0, u "java/lang/Comparable"), (2, u "(JJJJ)V"), (6, u "isOpenTo"), (0, u "(J)Z")] 50

def k4c0 : Code := { maxStack := 3, maxLocals := 9, code := prog_82_method_1_code, exceptionTable := #[], attributes := #[] }
def k4m0 : Method := { name := "<init>", desc := "(JJJJ)V", sig := { parameters := [.long, .long, .long, .long], returnType := none }, accessFlags := 1, code := some k4c0 }
def k4c1 : Code := { maxStack := 4, maxLocals := 3, code := prog_82_method_4_code, exceptionTable := #[], attributes := #[] }
def k4m1 : Method := { name := "isOpenTo", desc := "(J)Z", sig := { parameters := [.long], returnType := some .boolean }, accessFlags := 1, code := some k4c1 }
/-- com/example/quorumtree/quorumtree/core/quorum/Vote -/
def k4 : Class := { plain "com/example/quorumtree/quorumtree/core/quorum/Vote" (some 2) with
  accessFlags := 49
  interfaces := #[3]
  cf := some (fileOf pool4 8 #[] #[{ accessFlags := 1, nameIndex := 5, descriptorIndex := 64, attributes := #[] }, { accessFlags := 1, nameIndex := 71, descriptorIndex := 72, attributes := #[] }] 49 2 #[60] #[{ accessFlags := 18, nameIndex := 11, descriptorIndex := 12, attributes := #[] }, { accessFlags := 18, nameIndex := 15, descriptorIndex := 12, attributes := #[] }, { accessFlags := 18, nameIndex := 18, descriptorIndex := 12, attributes := #[] }, { accessFlags := 18, nameIndex := 21, descriptorIndex := 12, attributes := #[] }, { accessFlags := 26, nameIndex := 24, descriptorIndex := 25, attributes := #[] }])
  fields := #[{ name := "leader", type := .long, accessFlags := 18, slot := 0, constantValue := 0 }, { name := "zxid", type := .long, accessFlags := 18, slot := 1, constantValue := 0 }, { name := "epoch", type := .long, accessFlags := 18, slot := 2, constantValue := 0 }, { name := "history", type := .long, accessFlags := 18, slot := 3, constantValue := 0 }, { name := "ORDER", type := (.object "java/util/Comparator"), accessFlags := 26, slot := 0, constantValue := 0 }]
  methods := #[k4m0, k4m1]
  instanceTypes := #[.long, .long, .long, .long]
  staticTypes := #[(.object "java/util/Comparator")]
  resolved := Array.replicate 123 none
  statics := none }

def pool5 : Array CpInfo := pool [(1, u "java/lang/Cloneable"), (0, .class_ 1), (0, u "java/lang/Object"), (0, .class_ 3)] 3

/-- java/lang/Cloneable -/
def k5 : Class := { plain "java/lang/Cloneable" (some 0) with
  accessFlags := 1537
  interfaces := #[]
  cf := some (fileOf pool5 2 #[] #[] 1537 4 #[] #[])
  fields := #[]
  methods := #[]
  instanceTypes := #[]
  staticTypes := #[]
  resolved := Array.replicate 8 none
  statics := none }

def pool6 : Array CpInfo := pool [(1, u "java/io/Serializable"), (0, .class_ 1), (0, u "java/lang/Object"), (0, .class_ 3)] 3

/-- java/io/Serializable -/
def k6 : Class := { plain "java/io/Serializable" (some 0) with
  accessFlags := 1537
  interfaces := #[]
  cf := some (fileOf pool6 2 #[] #[] 1537 4 #[] #[])
  fields := #[]
  methods := #[]
  instanceTypes := #[]
  staticTypes := #[]
  resolved := Array.replicate 8 none
  statics := none }

/-- the primitive byte -/
def k7 : Class := { plain "byte" none with kind := .primitive 'B', accessFlags := 0x411 }
/-- [B -/
def k8 : Class := { plain "[B" (some 0) with kind := .array 7 .byte, interfaces := #[5, 6], accessFlags := 1041 }

/-- the primitive int -/
def k9 : Class := { plain "int" none with kind := .primitive 'I', accessFlags := 0x411 }
/-- [I -/
def k10 : Class := { plain "[I" (some 0) with kind := .array 9 .int, interfaces := #[5, 6], accessFlags := 1041 }

def heap : Heap := #[]
def classes : Array Class := #[k0, k1, k2, k3, k4, k5, k6, k7, k8, k9, k10]
def interned : List (Array UInt16 × Addr) := []
def slotsUsed : Nat := 0
def theMethod : MethodId := ⟨1, 1⟩
def args0 : Array Value := #[.long 5, .long 5, .long 5, .long 5, .long 5, .int 3]
def aboutOver (below : List Frame) : State where
  vm := { classes := classes, interned := interned.toArray }
  heap := heap
  slotsUsed := slotsUsed
  threads := #[{ frames := .invoking theMethod args0 :: below }]
def below0 : List Frame := [.native { method := ⟨0, 0⟩, args := #[] }]
def about1 : State := aboutOver below0
def p0 : Program := .bare "" "" ""
def e0 : Env := launch0.env 0 0 0
theorem w_frames : about1.frames = Frame.invoking theMethod args0 :: below0 := rfl
set_option maxRecDepth 65536 in
theorem w_args : argsFit about1.vm theMethod args0 = true := by decide +kernel
set_option maxRecDepth 65536 in
theorem w_heap : heapFits about1 = true := by decide +kernel
set_option maxRecDepth 65536 in
theorem w_runnable : about1.curStatus? = some .runnable := by decide +kernel
set_option maxRecDepth 65536 in
theorem w_alone : about1.alone = true := by decide +kernel
set_option maxRecDepth 65536 in
theorem w_named : about1.methodNamed? x = some theMethod := by decide +kernel
set_option maxRecDepth 65536 in
theorem w_hears : about1.hears theMethod below0 = true := by decide +kernel
set_option maxRecDepth 65536 in
theorem w_ripe : about1.ripe theMethod args0 below0 = true := by decide +kernel
theorem w_running : about1.status = .running := rfl
set_option maxRecDepth 65536 in
theorem w_room : about1.hasRoom e0.platform room_1 = true :=
  launch0.hasRoom_least _ room_1 (by decide +kernel) (by decide +kernel) (by decide +kernel) (by decide +kernel) (by decide +kernel) (by decide +kernel)
theorem allAtoms_all (ts : List Jvm.Cond) (a : Array Jvm.Value) (st : Jvm.State) : (allAtoms ts).before a st = ts.all (fun c => c.before a st) := by
  induction ts with
  | nil => rfl
  | cons c t ih =>
    show (Jvm.Cond.and c (allAtoms t)).before a st = _
    rw [Jvm.Cond.before_and, ih, List.all_cons]
def words1 : List Jvm.Cond := Jvm.Cond.code x code maxLocals ret :: tables_1
/-- a 'code' word, met by the world's own term for the bytes: nothing is compared byte by byte -/
theorem code_word {y : MethodName} {bytes : ByteArray} {mx : Nat} {rt : Option FieldType} {a : Array Value} {s : State} {m : MethodId} {meth : Method} {c : Code} (h1 : s.methodNamed? y = some m) (h2 : s.vm.method? m = some meth) (h3 : meth.code = some c) (h4 : c.code = bytes)
    (h5 : (c.maxLocals == mx && c.exceptionTable.isEmpty && decide (c.maxStack ≤ mostOperands) && decide (meth.sig.returnType = rt) && !meth.locks && decide (parseMethodDescriptor y.desc = some meth.sig)) = true) : (Jvm.Cond.code y bytes mx rt).before a s = true := by
  simp only [Bool.and_eq_true, beq_iff_eq, Bool.not_eq_true', decide_eq_true_eq] at h5
  obtain ⟨⟨⟨⟨⟨g1, g2⟩, g3⟩, g4⟩, g5⟩, g6⟩ := h5
  simp [Cond.before, Cond.holds, Cond.value, h1, h2, h3, h4, g1, g2, g3, g4, g5, g6]
def isCode : Jvm.Cond → Bool
  | .code _ _ _ _ => true
  | _ => false
theorem all_split {L : List Jvm.Cond} {P : Jvm.Cond → Bool} (h1 : L.all (fun c => isCode c || P c) = true) (h2 : ∀ c ∈ L.filter isCode, P c = true) : L.all P = true := by
  refine List.all_eq_true.mpr fun c hc => ?_
  have h := List.all_eq_true.mp h1 c hc
  rcases Bool.eq_false_or_eq_true (isCode c) with hi | hi
  · exact h2 c (List.mem_filter.mpr ⟨hc, hi⟩)
  · simpa [hi] using h
set_option maxRecDepth 65536 in
theorem w_c0 : (Jvm.Cond.code x code maxLocals ret).before args0 about1 = true := code_word (m := ⟨1, 1⟩) (meth := k1m1) (c := k1c1) (by decide +kernel) rfl rfl rfl (by decide +kernel)
set_option maxRecDepth 65536 in
theorem w_c1 : (Jvm.Cond.code ({ cls := "com/example/quorumtree/quorumtree/core/quorum/Vote", name := "<init>", desc := "(JJJJ)V" } : Jvm.MethodName) prog_82_method_1_code (9 : Nat) (Option.none : Option Jvm.ClassFile.FieldType)).before args0 about1 = true := code_word (m := ⟨4, 0⟩) (meth := k4m0) (c := k4c0) (by decide +kernel) rfl rfl rfl (by decide +kernel)
set_option maxRecDepth 65536 in
theorem w_c2 : (Jvm.Cond.code ({ cls := "java/lang/Record", name := "<init>", desc := "()V" } : Jvm.MethodName) jdk_30_method_1_code (1 : Nat) (Option.none : Option Jvm.ClassFile.FieldType)).before args0 about1 = true := code_word (m := ⟨2, 0⟩) (meth := k2m0) (c := k2c0) (by decide +kernel) rfl rfl rfl (by decide +kernel)
set_option maxRecDepth 65536 in
theorem w_c3 : (Jvm.Cond.code ({ cls := "java/lang/Object", name := "<init>", desc := "()V" } : Jvm.MethodName) object_method_1_code (1 : Nat) (Option.none : Option Jvm.ClassFile.FieldType)).before args0 about1 = true := code_word (m := ⟨0, 0⟩) (meth := k0m0) (c := k0c0) (by decide +kernel) rfl rfl rfl (by decide +kernel)
set_option maxRecDepth 65536 in
theorem w_c4 : (Jvm.Cond.code ({ cls := "com/example/quorumtree/quorumtree/core/quorum/Vote", name := "isOpenTo", desc := "(J)Z" } : Jvm.MethodName) prog_82_method_4_code (3 : Nat) (Option.some Jvm.ClassFile.FieldType.boolean)).before args0 about1 = true := code_word (m := ⟨4, 1⟩) (meth := k4m1) (c := k4c1) (by decide +kernel) rfl rfl rfl (by decide +kernel)
def codes1 : List Jvm.Cond := [Jvm.Cond.code x code maxLocals ret, Jvm.Cond.code ({ cls := "com/example/quorumtree/quorumtree/core/quorum/Vote", name := "<init>", desc := "(JJJJ)V" } : Jvm.MethodName) prog_82_method_1_code (9 : Nat) (Option.none : Option Jvm.ClassFile.FieldType), Jvm.Cond.code ({ cls := "java/lang/Record", name := "<init>", desc := "()V" } : Jvm.MethodName) jdk_30_method_1_code (1 : Nat) (Option.none : Option Jvm.ClassFile.FieldType), Jvm.Cond.code ({ cls := "java/lang/Object", name := "<init>", desc := "()V" } : Jvm.MethodName) object_method_1_code (1 : Nat) (Option.none : Option Jvm.ClassFile.FieldType), Jvm.Cond.code ({ cls := "com/example/quorumtree/quorumtree/core/quorum/Vote", name := "isOpenTo", desc := "(J)Z" } : Jvm.MethodName) prog_82_method_4_code (3 : Nat) (Option.some Jvm.ClassFile.FieldType.boolean)]
set_option maxRecDepth 65536 in
theorem codes_eq : words1.filter isCode = codes1 := rfl
theorem w_codes : ∀ c ∈ words1.filter isCode, c.before args0 about1 = true := by
  rw [codes_eq]
  intro c hc
  simp only [codes1, List.mem_cons, List.not_mem_nil, or_false] at hc
  rcases hc with rfl | rfl | rfl | rfl | rfl
  · exact w_c0
  · exact w_c1
  · exact w_c2
  · exact w_c3
  · exact w_c4
set_option maxRecDepth 65536 in
theorem w_t1 : (words1.take 24).all (fun c => isCode c || c.before args0 about1) = true := by decide +kernel
set_option maxRecDepth 65536 in
theorem w_t2 : (words1.drop 24).all (fun c => isCode c || c.before args0 about1) = true := by decide +kernel
theorem w_tables : (allAtoms (Jvm.Cond.code x code maxLocals ret :: tables_1)).before args0 about1 = true := by
  rw [allAtoms_all]
  show words1.all (fun c => c.before args0 about1) = true
  refine all_split ?_ w_codes
  rw [← List.take_append_drop 24 words1, List.all_append, w_t1, w_t2]
  rfl
set_option maxRecDepth 65536 in
theorem w_case : (Jvm.Cond.and given_1 narrow_1).before args0 about1 = true := by decide +kernel
theorem w_applies : (headSpec (Jvm.Cond.code x code maxLocals ret :: tables_1) room_1).applies x e0.platform about1 = true :=
  (Spec.applies_iff w_frames).mpr ⟨w_running, w_runnable, w_alone, w_named, w_hears, w_ripe, w_room, w_tables⟩
theorem atStart : AtStart classFile x code maxLocals ret World_1 tables_1 room_1 Calls_1 rest_1 Pre_1 launch0 p0 e0 about1 theMethod args0 below0 :=
  ⟨lists_1, trivial, launch0.admits_env _ _ _, launch0.least_env, fairChoices_fair.cas, fairChoices_fair.clock, w_frames, w_args, w_heap, w_applies, trivial, trivial, w_case⟩
end start1
theorem witness_1 : WitnessClaimed_1 := ⟨start1.p0, start1.e0, start1.about1, start1.theMethod, start1.args0, start1.below0, start1.atStart⟩
end Jvm.Pilot.@@N@@
