import JvmDerived
import JvmDerived.Pilot.@@N@@Statement
import JvmDerived.Pilot.@@N@@Code
set_option linter.unusedVariables false
set_option linter.unusedSimpArgs false
namespace Jvm.Pilot.@@N@@
open Jvm Jvm.ClassFile Sem Op Lib Jvm.Free Jvm.Stand Jvm.LawKit Jvm.RoadKit Bundle Jvm.Pilot.@@N@@.Jvm.D
/-! own: the walk's goal, read backwards -/
def Go (tb : Tables) (e : Env) (below : List Frame) (F : State → Outcome → Prop) (A : State) : Prop := ∃ t o, Steps tb e below A t ∧ F t o
def Fin (below : List Frame) (s : State) (Q : Option Value → Heap → List Loc → Prop) (k n : Nat) (t : State) (o : Outcome) : Prop := t.status = .running ∧ Ended t below o ∧ ∃ v L, o = .returned v ∧ Q v t.heap L ∧ FrameEnd s o t L k n
theorem go {tb : Tables} {e : Env} {below : List Frame} {F : State → Outcome → Prop} {A B : State} (st : ∀ t, Steps tb e below B t → Steps tb e below A t) (h : Go tb e below F B) : Go tb e below F A := by
  obtain ⟨t, o, h1, h2⟩ := h
  exact ⟨t, o, st t h1, h2⟩
theorem go_in {p : Program} {e : Env} {below : List Frame} {s s₁ : State} {Q : Option Value → Heap → List Loc → Prop} {k n : Nat} {A : State} (h : ∀ F : State → Outcome → Prop, (∀ t o, Fin below s Q k n t o → F t o) → Go p.tables e below F A) :
    ∃ t o, Steps p.tables e below A t ∧ t.status = .running ∧ Ended t below o ∧ ∃ v L, o = .returned v ∧ Q v t.heap L ∧ FrameEnd s o t L k n := by
  obtain ⟨t, o, h1, h2, h3, h4⟩ := h (Fin below s Q k n) (fun _ _ h => h)
  exact ⟨t, o, h1, h2, h3, h4⟩
theorem own_fld {s : State} {args : Array Value} {t : Term} {C n d : String} {a : Addr} {k : Int32} (ev : t.eval args s none [] s = some (.ref a)) (h : (Cond.eq (.field t C n d) (.int k)).value args s none s [] = some true) : Fld s s.heap a C n d (.int k) := Fld.start ((fld_at ev).symm.trans (eqv_i (Term.int_eval k) h))
def NSt (h : Heap) (x : Addr) : Prop := ∃ c : Cell, h[x]? = some c ∧ c.vm.isStatics = false
theorem own_sta_keep {Z : State} {h h' : Heap} {C n d : String} {v : Value} {ws : List Addr} (F : Sta Z h C n d v) (K : Keep h h' ws) (q : ∀ x ∈ ws, NSt h x) : Sta Z h' C n d v := by
  obtain ⟨cf, i, k, f, st, cell, h1, h2, h3, h4, h5, h6, h7⟩ := F
  refine ⟨cf, i, k, f, st, cell, h1, h2, h3, h4, K.2.1 _ _ h5 (fun z => ?_), h6, h7⟩
  obtain ⟨c, g1, g2⟩ := q _ z
  cases h5.symm.trans g1
  rw [h6] at g2; cases g2
end Jvm.Pilot.@@N@@
namespace Jvm.RoadKit
theorem Exa.ns {Z : State} {h : Heap} {a : Addr} {C : String} (F : Exa Z h a C) : Jvm.Pilot.@@N@@.NSt h a := by
  obtain ⟨c, _, h1, -, -, h4, -⟩ := F; exact ⟨c, h1, h4⟩
theorem Arv.ns {Z : State} {h : Heap} {a : Addr} {k : ClassId} {ty : ClassFile.FieldType} {z : Int32} {vs : List Value} {dv : Value} (F : Arv Z h a k ty z vs dv) : Jvm.Pilot.@@N@@.NSt h a := by
  obtain ⟨c, A, -⟩ := F; exact ⟨c, A.1, A.plain⟩
end Jvm.RoadKit
namespace Jvm.Pilot.@@N@@
open Jvm Jvm.ClassFile Sem Op Lib Jvm.Free Jvm.Stand Jvm.LawKit Jvm.RoadKit Bundle Jvm.Pilot.@@N@@.Jvm.D
theorem own_no {Z : State} {aw : Array Value} {X Y : String} {t : List String} {n : Nat} (hwc : ∀ w ∈ Cond.chainWords (X :: t), w.before aw Z = true) (wi : (Cond.instantiable Y n).before aw Z = true) (hn : Y ∉ X :: t) : ∃ c t, Z.vm.findClass X = some c ∧ Z.vm.findClass Y = some t ∧ Z.vm.assignable c t = false := by
  obtain ⟨cy, ky, hy1, hy2, hy3, hy4, -⟩ := Cond.instantiable_spec wi
  obtain ⟨cx, k, hx, -⟩ := Cond.chain_head hwc
  exact ⟨cx, cy, hx, hy1, Vm.notAssignable_of_chain hx hy1 hy2 hy3 (Bool.or_eq_false_iff.mp hy4).1 hwc hn⟩
theorem own_selp {Z s : State} {aw args : Array Value} {y : MethodName} {n : Nat} (hZ : Z.Warmed39 s.vm) (wi : (Cond.instantiable y.cls n).before aw Z = true) (wp : (Cond.privateMethod y).before aw Z = true) (wm : (Cond.instanceMethod y).before aw Z = true) (hy : y.cls ≠ "java/lang/invoke/MethodHandle" ∧ y.cls ≠ "java/lang/invoke/VarHandle") : (Cond.selects y.cls y y).before args s = true := by
  obtain ⟨c, k, h1, h2, -, h4, -⟩ := Cond.instantiable_spec (mvT (args := args) hZ wi)
  exact selects_self_of_private h1 h2 (Bool.or_eq_false_iff.mp h4).1 (Cond.privateMethod_at (mvP hZ wp (args := args))) (mvT hZ wm) hy
section Ends
variable {p : Program} {l : Launch} {e : Env} {R : Room} {s : State} {m : MethodId} {args : Array Value} {below : List Frame} {meth : Method} {c : Code} {T : State} {locs : List Loc} {cells slots : Nat} {F : State → Outcome → Prop} {Q : Option Value → Heap → List Loc → Prop} {k n : Nat} {pc : Nat} {Ls : Array Slot} {rest : List Value} {h : Heap}
/-- the end of a walk: what is returned, what the heap says -/
theorem go_end (X : Stand p l e R s m args below meth c T locs cells slots) (hlk : meth.locks = false) (hF : ∀ t o, Fin below s Q k n t o → F t o) (eT : T.heap = h) (hk : cells ≤ k) (hn : slots ≤ n) {v : Option Value} (hv : meth.sig.returnType = none → v = none) (hQ : Q v h locs) {A : State}
    (hs : ∀ fs, (∀ (f : JFrame) (acts : List Action), f.method = m → f.locked = none → f.entered = [] → (doReturn e (T.setTop f) acts v).1 = T.setFrames fs) → Steps p.tables e below A (T.setFrames fs)) : Go p.tables e below F A := by
  obtain ⟨fs, hr, hrun, hended, hW, hsame⟩ := X.leave (v := v) hv hlk
  subst eT
  exact ⟨_, _, hs fs hr, hF _ _ ⟨hrun, hended, _, _, rfl, hQ, ⟨_, rfl⟩, hW, hsame.mono hk hn⟩⟩
theorem end_void (X : Stand p l e R s m args below meth c T locs cells slots) (hx : p.tables.exec = Jvm.exec) (hlk : meth.locks = false) (hret : meth.sig.returnType = none) (hd : decode c.code pc = .ok (.return_, 1)) (hF : ∀ t o, Fin below s Q k n t o → F t o) (eT : T.heap = h) (hk : cells ≤ k) (hn : slots ≤ n) (hQ : Q none h locs) : Go p.tables e below F (T.setTop (mkF m pc Ls [])) :=
  go_end X hlk hF eT hk hn (fun _ => rfl) hQ fun fs hr => X.returnOut hx hret hd hr
theorem end_nar {z : Int32} {t : FieldType} (X : Stand p l e R s m args below meth c T locs cells slots) (hx : p.tables.exec = Jvm.exec) (hlk : meth.locks = false) (hret : meth.sig.returnType = some t) (ht : t = .boolean ∨ t = .byte ∨ t = .char ∨ t = .short) (hd : decode c.code pc = .ok (.ireturn, 1)) (hF : ∀ t o, Fin below s Q k n t o → F t o) (eT : T.heap = h) (hk : cells ≤ k) (hn : slots ≤ n) (hQ : Q (some (.int (nar t z))) h locs) : Go p.tables e below F (T.setTop (mkF m pc Ls (.int z :: rest))) :=
  go_end X hlk hF eT hk hn (fun h => by rw [hret] at h; cases h) hQ fun fs hr => retN X hx hret ht hd hr
theorem end_int {z : Int32} (X : Stand p l e R s m args below meth c T locs cells slots) (hx : p.tables.exec = Jvm.exec) (hlk : meth.locks = false) (hret : meth.sig.returnType = some .int) (hd : decode c.code pc = .ok (.ireturn, 1)) (hF : ∀ t o, Fin below s Q k n t o → F t o) (eT : T.heap = h) (hk : cells ≤ k) (hn : slots ≤ n) (hQ : Q (some (.int z)) h locs) : Go p.tables e below F (T.setTop (mkF m pc Ls (.int z :: rest))) :=
  go_end X hlk hF eT hk hn (fun h => by rw [hret] at h; cases h) hQ fun fs hr => retOut X hx hret rfl (Or.inl ⟨rfl, Or.inl rfl, _, rfl⟩) hd hr
theorem end_long {z : Int64} (X : Stand p l e R s m args below meth c T locs cells slots) (hx : p.tables.exec = Jvm.exec) (hlk : meth.locks = false) (hret : meth.sig.returnType = some .long) (hd : decode c.code pc = .ok (.lreturn, 1)) (hF : ∀ t o, Fin below s Q k n t o → F t o) (eT : T.heap = h) (hk : cells ≤ k) (hn : slots ≤ n) (hQ : Q (some (.long z)) h locs) : Go p.tables e below F (T.setTop (mkF m pc Ls (.long z :: rest))) :=
  go_end X hlk hF eT hk hn (fun h => by rw [hret] at h; cases h) hQ fun fs hr => retOut X hx hret rfl (Or.inr (Or.inl ⟨rfl, rfl, _, rfl⟩)) hd hr
theorem end_ref {w : Value} {t : FieldType} (X : Stand p l e R s m args below meth c T locs cells slots) (hx : p.tables.exec = Jvm.exec) (hlk : meth.locks = false) (hret : meth.sig.returnType = some t) (ht : t.isReference = true) (hw : w.isRef = true) (hnr : narrow t w = w) (hd : decode c.code pc = .ok (.areturn, 1)) (hF : ∀ t o, Fin below s Q k n t o → F t o) (eT : T.heap = h) (hk : cells ≤ k) (hn : slots ≤ n) (hQ : Q (some w) h locs) : Go p.tables e below F (T.setTop (mkF m pc Ls (w :: rest))) :=
  go_end X hlk hF eT hk hn (fun h => by rw [hret] at h; cases h) hQ fun fs hr => retOut X hx hret hnr (Or.inr (Or.inr (Or.inr (Or.inr ⟨rfl, ht, hw⟩)))) hd hr
end Ends
theorem d1_0 : decode prog_111_method_6_code 0 = .ok (.aload_n 0, 1) := by decide +kernel
theorem d1_1 : decode prog_111_method_6_code 1 = .ok (.getstatic 3, 3) := by decide +kernel
theorem d1_4 : decode prog_111_method_6_code 4 = .ok (.if_acmp .eq 10, 3) := by decide +kernel
theorem d1_7 : decode prog_111_method_6_code 7 = .ok (.aload_n 0, 1) := by decide +kernel
theorem d1_8 : decode prog_111_method_6_code 8 = .ok (.getstatic 13, 3) := by decide +kernel
theorem d1_11 : decode prog_111_method_6_code 11 = .ok (.if_acmp .ne 7, 3) := by decide +kernel
theorem d1_14 : decode prog_111_method_6_code 14 = .ok (.iconst 1, 1) := by decide +kernel
theorem d1_15 : decode prog_111_method_6_code 15 = .ok (.goto 4, 3) := by decide +kernel
theorem d1_18 : decode prog_111_method_6_code 18 = .ok (.iconst 0, 1) := by decide +kernel
theorem d1_19 : decode prog_111_method_6_code 19 = .ok (.ireturn, 1) := by decide +kernel
theorem pn_1 : plainName "com/example/quorumtree/quorumtree/server/Mode" = true := by first | (simp [plainName, overriddenIn]; done) | decide +kernel
theorem ef_1 (m : MethodId) (a0 : Addr) : entryFrame m #[(.ref a0)] 1 = mkF m 0 #[.val (.ref a0)] [] := by first | (simp [entryFrame, mkF, argsToLocals, Value.category]; done) | rfl
def f1 (a0 : Addr) (w_STANDALONE : Addr) (w_LEADER : Addr) : Int32 := if a0 = w_STANDALONE then (1 : Int32) else if a0 = w_LEADER then (1 : Int32) else (0 : Int32)
abbrev room1 : Room := { frames := 0, cells := 0, slots := 0, locals := 0 }
def Q1 (Z : State) (a0 : Addr) (w_STANDALONE : Addr) (w_LEADER : Addr) (h0 : Heap) (n0 : Nat) (v : Option Value) (h : Heap) (L : List Loc) : Prop := v = some (.int (f1 a0 w_STANDALONE w_LEADER)) ∧ L = [] ∧ h = h0
set_option maxRecDepth 65536 in
set_option maxHeartbeats 40000000 in
theorem rm1 (l : Launch) (Z : State) (aw : Array Value) (hw : ∀ d ∈ tables_1, d.before aw Z = true) (ws : List Jvm.Cond) (a0 : Addr) (w_STANDALONE : Addr) (w_LEADER : Addr) (h0 : Heap) (n0 : Nat) (Z0 : n0 ≤ h0.size) (S_STANDALONE : Sta Z h0 "com/example/quorumtree/quorumtree/server/Mode" "STANDALONE" "Lcom/example/quorumtree/quorumtree/server/Mode;" (.ref w_STANDALONE)) (S_LEADER : Sta Z h0 "com/example/quorumtree/quorumtree/server/Mode" "LEADER" "Lcom/example/quorumtree/quorumtree/server/Mode;" (.ref w_LEADER)) :
    MetFree l (⟨"com/example/quorumtree/quorumtree/server/Mode", "ordersWrites", "()Z"⟩ : MethodName) (head1 (Jvm.Cond.code (⟨"com/example/quorumtree/quorumtree/server/Mode", "ordersWrites", "()Z"⟩ : MethodName) prog_111_method_6_code 1 (some .boolean) :: ws) room1) (fun a U => a = #[(.ref a0)] ∧ Z.Warmed39 U.vm ∧ U.heap = h0) (fun _ _ _ _ _ => True) (fun _ U o U' => ∃ v L, o = .returned v ∧ Q1 Z a0 w_STANDALONE w_LEADER h0 n0 v U'.heap L ∧ FrameEnd U o U' L room1.cells room1.slots) := by
  refine MetFree.of_bodySF (plainFor_of_name pn_1) hisR ?_
  intro p e s m args below meth c s₁ Bd hml0 hP hK
  obtain ⟨rfl, hZ, hh⟩ := hP
  have hx := Bd.exec
  have hby := Bd.bytes
  have hml : c.maxLocals = 1 := hml0
  have hown : s.vm.findClass "com/example/quorumtree/quorumtree/server/Mode" = some m.cls := findClass_of_methodNamed Bd.named
  have hnm := (name_of_methodNamed Bd.named Bd.method).1
  have X0 : Stand p l e room1 s m #[(.ref a0)] below meth c s₁ [] 0 0 := Stand.of_body Bd
  have e0 : s₁.heap = h0 := by rw [← hh, Bd.state]; rfl
  have N0 := Fr.nil n0
  rw [ef_1 m a0]
  refine go_in (s₁ := s₁) (Q := Q1 Z a0 w_STANDALONE w_LEADER h0 n0) fun F hF => ?_
  refine go (B := s₁.setTop (mkF m 1 #[.val (.ref a0)] [(.ref a0)])) (fun _ k => XS.aloadN X0.here hx rfl (hb hby d1_0) rfl rfl k) ?_
  obtain ⟨T1, X1, e1, st1⟩ := getS2 X0 hx hZ hown (host := "") (Or.inl (hw _ (List.mem_of_getElem? (i := 8) rfl))) Via.refl e0 S_STANDALONE (g := (mkF m 1 #[.val (.ref a0)] [(.ref a0)])) rfl (hb hby d1_1)
  refine go (B := T1.setTop (mkF m 4 #[.val (.ref a0)] [(.ref w_STANDALONE), (.ref a0)])) st1 ?_
  by_cases hc2 : a0 = w_STANDALONE
  · refine go (B := T1.setTop (mkF m 14 #[.val (.ref a0)] [])) (fun _ k => Jvm.RoadKit.acmp (g := (mkF m 4 #[.val (.ref a0)] [(.ref w_STANDALONE), (.ref a0)])) X1 hx rfl rfl rfl (pc0 := 4) (pc' := 14) (same := true) rfl (hb hby d1_4) rfl (decide_eq_true (congrArg Value.ref hc2)) (by decide) (by decide) k) ?_
    refine go (B := T1.setTop (mkF m 15 #[.val (.ref a0)] [(.int (1 : Int32))])) (fun _ k => XS.iconst X1.here hx rfl (hb hby d1_14) k) ?_
    refine go (B := T1.setTop (mkF m 19 #[.val (.ref a0)] [(.int (1 : Int32))])) (fun _ k => XS.goto X1.here hx rfl (pc0 := 15) (pc' := 19) rfl (hb hby d1_15) (by decide) (by decide) k) ?_
    have r3 : (f1 a0 w_STANDALONE w_LEADER) = (1 : Int32) := by unfold f1; rw [if_pos hc2]
    exact end_nar X1 hx Bd.notSynchronized (t := .boolean) Bd.returns (by simp) (hb hby d1_19) hF e1 (by decide) (by decide) ⟨(congrArg (fun z => some (Value.int z)) r3.symm), rfl, rfl⟩
  · refine go (B := T1.setTop (mkF m 7 #[.val (.ref a0)] [])) (fun _ k => Jvm.RoadKit.acmp (g := (mkF m 4 #[.val (.ref a0)] [(.ref w_STANDALONE), (.ref a0)])) X1 hx rfl rfl rfl (pc0 := 4) (pc' := 7) (same := false) rfl (hb hby d1_4) rfl (decide_eq_false fun q => hc2 (Value.ref.inj q)) (by decide) (by decide) k) ?_
    refine go (B := T1.setTop (mkF m 8 #[.val (.ref a0)] [(.ref a0)])) (fun _ k => XS.aloadN X1.here hx rfl (hb hby d1_7) rfl rfl k) ?_
    obtain ⟨T4, X4, e4, st4⟩ := getS2 X1 hx hZ hown (host := "") (Or.inl (hw _ (List.mem_of_getElem? (i := 18) rfl))) Via.refl e1 S_LEADER (g := (mkF m 8 #[.val (.ref a0)] [(.ref a0)])) rfl (hb hby d1_8)
    refine go (B := T4.setTop (mkF m 11 #[.val (.ref a0)] [(.ref w_LEADER), (.ref a0)])) st4 ?_
    by_cases hc5 : a0 = w_LEADER
    · refine go (B := T4.setTop (mkF m 14 #[.val (.ref a0)] [])) (fun _ k => Jvm.RoadKit.acmp (g := (mkF m 11 #[.val (.ref a0)] [(.ref w_LEADER), (.ref a0)])) X4 hx rfl rfl rfl (pc0 := 11) (pc' := 14) (same := true) rfl (hb hby d1_11) rfl (decide_eq_true (congrArg Value.ref hc5)) (by decide) (by decide) k) ?_
      refine go (B := T4.setTop (mkF m 15 #[.val (.ref a0)] [(.int (1 : Int32))])) (fun _ k => XS.iconst X4.here hx rfl (hb hby d1_14) k) ?_
      refine go (B := T4.setTop (mkF m 19 #[.val (.ref a0)] [(.int (1 : Int32))])) (fun _ k => XS.goto X4.here hx rfl (pc0 := 15) (pc' := 19) rfl (hb hby d1_15) (by decide) (by decide) k) ?_
      have r6 : (f1 a0 w_STANDALONE w_LEADER) = (1 : Int32) := by unfold f1; rw [if_neg hc2, if_pos hc5]
      exact end_nar X4 hx Bd.notSynchronized (t := .boolean) Bd.returns (by simp) (hb hby d1_19) hF e4 (by decide) (by decide) ⟨(congrArg (fun z => some (Value.int z)) r6.symm), rfl, rfl⟩
    · refine go (B := T4.setTop (mkF m 18 #[.val (.ref a0)] [])) (fun _ k => Jvm.RoadKit.acmp (g := (mkF m 11 #[.val (.ref a0)] [(.ref w_LEADER), (.ref a0)])) X4 hx rfl rfl rfl (pc0 := 11) (pc' := 18) (same := false) rfl (hb hby d1_11) rfl (decide_eq_false fun q => hc5 (Value.ref.inj q)) (by decide) (by decide) k) ?_
      refine go (B := T4.setTop (mkF m 19 #[.val (.ref a0)] [(.int (0 : Int32))])) (fun _ k => XS.iconst X4.here hx rfl (hb hby d1_18) k) ?_
      have r7 : (f1 a0 w_STANDALONE w_LEADER) = (0 : Int32) := by unfold f1; rw [if_neg hc2, if_neg hc5]
      exact end_nar X4 hx Bd.notSynchronized (t := .boolean) Bd.returns (by simp) (hb hby d1_19) hF e4 (by decide) (by decide) ⟨(congrArg (fun z => some (Value.int z)) r7.symm), rfl, rfl⟩
theorem d2_0 : decode prog_111_method_5_code 0 = .ok (.aload_n 0, 1) := by decide +kernel
theorem d2_1 : decode prog_111_method_5_code 1 = .ok (.getstatic 7, 3) := by decide +kernel
theorem d2_4 : decode prog_111_method_5_code 4 = .ok (.if_acmp .eq 7, 3) := by decide +kernel
theorem d2_7 : decode prog_111_method_5_code 7 = .ok (.iconst 1, 1) := by decide +kernel
theorem d2_8 : decode prog_111_method_5_code 8 = .ok (.goto 4, 3) := by decide +kernel
theorem d2_11 : decode prog_111_method_5_code 11 = .ok (.iconst 0, 1) := by decide +kernel
theorem d2_12 : decode prog_111_method_5_code 12 = .ok (.ireturn, 1) := by decide +kernel
theorem ef_2 (m : MethodId) (a0 : Addr) : entryFrame m #[(.ref a0)] 1 = mkF m 0 #[.val (.ref a0)] [] := by first | (simp [entryFrame, mkF, argsToLocals, Value.category]; done) | rfl
def f2 (a0 : Addr) (w_LOOKING : Addr) : Int32 := if a0 = w_LOOKING then (0 : Int32) else (1 : Int32)
abbrev room2 : Room := { frames := 0, cells := 0, slots := 0, locals := 0 }
def Q2 (Z : State) (a0 : Addr) (w_LOOKING : Addr) (h0 : Heap) (n0 : Nat) (v : Option Value) (h : Heap) (L : List Loc) : Prop := v = some (.int (f2 a0 w_LOOKING)) ∧ L = [] ∧ h = h0
set_option maxRecDepth 65536 in
set_option maxHeartbeats 40000000 in
theorem rm2 (l : Launch) (Z : State) (aw : Array Value) (hw : ∀ d ∈ tables_1, d.before aw Z = true) (ws : List Jvm.Cond) (a0 : Addr) (w_LOOKING : Addr) (h0 : Heap) (n0 : Nat) (Z0 : n0 ≤ h0.size) (S_LOOKING : Sta Z h0 "com/example/quorumtree/quorumtree/server/Mode" "LOOKING" "Lcom/example/quorumtree/quorumtree/server/Mode;" (.ref w_LOOKING)) :
    MetFree l (⟨"com/example/quorumtree/quorumtree/server/Mode", "servesClients", "()Z"⟩ : MethodName) (head1 (Jvm.Cond.code (⟨"com/example/quorumtree/quorumtree/server/Mode", "servesClients", "()Z"⟩ : MethodName) prog_111_method_5_code 1 (some .boolean) :: ws) room2) (fun a U => a = #[(.ref a0)] ∧ Z.Warmed39 U.vm ∧ U.heap = h0) (fun _ _ _ _ _ => True) (fun _ U o U' => ∃ v L, o = .returned v ∧ Q2 Z a0 w_LOOKING h0 n0 v U'.heap L ∧ FrameEnd U o U' L room2.cells room2.slots) := by
  refine MetFree.of_bodySF (plainFor_of_name pn_1) hisR ?_
  intro p e s m args below meth c s₁ Bd hml0 hP hK
  obtain ⟨rfl, hZ, hh⟩ := hP
  have hx := Bd.exec
  have hby := Bd.bytes
  have hml : c.maxLocals = 1 := hml0
  have hown : s.vm.findClass "com/example/quorumtree/quorumtree/server/Mode" = some m.cls := findClass_of_methodNamed Bd.named
  have hnm := (name_of_methodNamed Bd.named Bd.method).1
  have X0 : Stand p l e room2 s m #[(.ref a0)] below meth c s₁ [] 0 0 := Stand.of_body Bd
  have e0 : s₁.heap = h0 := by rw [← hh, Bd.state]; rfl
  have N0 := Fr.nil n0
  rw [ef_2 m a0]
  refine go_in (s₁ := s₁) (Q := Q2 Z a0 w_LOOKING h0 n0) fun F hF => ?_
  refine go (B := s₁.setTop (mkF m 1 #[.val (.ref a0)] [(.ref a0)])) (fun _ k => XS.aloadN X0.here hx rfl (hb hby d2_0) rfl rfl k) ?_
  obtain ⟨T1, X1, e1, st1⟩ := getS2 X0 hx hZ hown (host := "") (Or.inl (hw _ (List.mem_of_getElem? (i := 14) rfl))) Via.refl e0 S_LOOKING (g := (mkF m 1 #[.val (.ref a0)] [(.ref a0)])) rfl (hb hby d2_1)
  refine go (B := T1.setTop (mkF m 4 #[.val (.ref a0)] [(.ref w_LOOKING), (.ref a0)])) st1 ?_
  by_cases hc2 : a0 = w_LOOKING
  · refine go (B := T1.setTop (mkF m 11 #[.val (.ref a0)] [])) (fun _ k => Jvm.RoadKit.acmp (g := (mkF m 4 #[.val (.ref a0)] [(.ref w_LOOKING), (.ref a0)])) X1 hx rfl rfl rfl (pc0 := 4) (pc' := 11) (same := true) rfl (hb hby d2_4) rfl (decide_eq_true (congrArg Value.ref hc2)) (by decide) (by decide) k) ?_
    refine go (B := T1.setTop (mkF m 12 #[.val (.ref a0)] [(.int (0 : Int32))])) (fun _ k => XS.iconst X1.here hx rfl (hb hby d2_11) k) ?_
    have r3 : (f2 a0 w_LOOKING) = (0 : Int32) := by unfold f2; rw [if_pos hc2]
    exact end_nar X1 hx Bd.notSynchronized (t := .boolean) Bd.returns (by simp) (hb hby d2_12) hF e1 (by decide) (by decide) ⟨(congrArg (fun z => some (Value.int z)) r3.symm), rfl, rfl⟩
  · refine go (B := T1.setTop (mkF m 7 #[.val (.ref a0)] [])) (fun _ k => Jvm.RoadKit.acmp (g := (mkF m 4 #[.val (.ref a0)] [(.ref w_LOOKING), (.ref a0)])) X1 hx rfl rfl rfl (pc0 := 4) (pc' := 7) (same := false) rfl (hb hby d2_4) rfl (decide_eq_false fun q => hc2 (Value.ref.inj q)) (by decide) (by decide) k) ?_
    refine go (B := T1.setTop (mkF m 8 #[.val (.ref a0)] [(.int (1 : Int32))])) (fun _ k => XS.iconst X1.here hx rfl (hb hby d2_7) k) ?_
    refine go (B := T1.setTop (mkF m 12 #[.val (.ref a0)] [(.int (1 : Int32))])) (fun _ k => XS.goto X1.here hx rfl (pc0 := 8) (pc' := 12) rfl (hb hby d2_8) (by decide) (by decide) k) ?_
    have r4 : (f2 a0 w_LOOKING) = (1 : Int32) := by unfold f2; rw [if_neg hc2]
    exact end_nar X1 hx Bd.notSynchronized (t := .boolean) Bd.returns (by simp) (hb hby d2_12) hF e1 (by decide) (by decide) ⟨(congrArg (fun z => some (Value.int z)) r4.symm), rfl, rfl⟩
theorem pd_0 : parseMethodDescriptor "()Z" = some ⟨[], some .boolean⟩ := by decide +kernel
theorem pn_0 : plainName "com/example/quorumtree/quorumtree/server/ModeOrdersWritesPinLaw" = true := by first | (simp [plainName, overriddenIn]; done) | decide +kernel
theorem ef_0 (m : MethodId) (p0 : Int32) : entryFrame m #[(.int p0)] maxLocals = mkF m 0 #[.val (.int p0), .unset, .unset, .unset, .unset] [] := by first | (simp [entryFrame, mkF, argsToLocals, Value.category, maxLocals]; done) | rfl
def f0_z0 (p0 : Int32) : Int32 := if (p0 &&& (3 : Int32)) = (3 : Int32) then (1 : Int32) else (0 : Int32)
def f0 (p0 : Int32) (w_STANDALONE : Addr) (w_LOOKING : Addr) (w_FOLLOWER : Addr) (w_LEADER : Addr) : Int32 := if (p0 &&& (3 : Int32)) = (0 : Int32) then if (f1 w_STANDALONE w_STANDALONE w_LEADER) = (1 : Int32) then if (f2 w_STANDALONE w_LOOKING) = (0 : Int32) then (0 : Int32) else (1 : Int32) else (0 : Int32) else if (p0 &&& (3 : Int32)) = (1 : Int32) then if (f1 w_LOOKING w_STANDALONE w_LEADER) = (0 : Int32) then (1 : Int32) else (0 : Int32) else if (p0 &&& (3 : Int32)) = (2 : Int32) then if (f1 w_FOLLOWER w_STANDALONE w_LEADER) = (0 : Int32) then (1 : Int32) else (0 : Int32) else if (f1 w_LEADER w_STANDALONE w_LEADER) = (f0_z0 p0) then if (f1 w_LEADER w_STANDALONE w_LEADER) = (0 : Int32) then (1 : Int32) else if (f2 w_LEADER w_LOOKING) = (0 : Int32) then (0 : Int32) else (1 : Int32) else (0 : Int32)
theorem own_and3 (x : Int32) : x &&& 3 = 0 ∨ x &&& 3 = 1 ∨ x &&& 3 = 2 ∨ x &&& 3 = 3 := by
  have h : (x &&& 3).toBitVec.toNat < 4 := by
    rw [Int32.toBitVec_and, BitVec.toNat_and]
    exact Nat.lt_of_le_of_lt Nat.and_le_right (by decide)
  have k : ∀ y : Int32, (x &&& 3).toBitVec.toNat = y.toBitVec.toNat → x &&& 3 = y := fun y q => Int32.toBitVec_inj.mp (BitVec.eq_of_toNat_eq q)
  generalize (x &&& 3).toBitVec.toNat = n at *
  match n, h with
  | 0, _ => exact Or.inl (k _ rfl)
  | 1, _ => exact Or.inr (Or.inl (k _ rfl))
  | 2, _ => exact Or.inr (Or.inr (Or.inl (k _ rfl)))
  | 3, _ => exact Or.inr (Or.inr (Or.inr (k _ rfl)))
theorem own_law (p0 : Int32) (a b c d : Addr) (ab : a ≠ b) (ac : a ≠ c) (ad : a ≠ d) (bc : b ≠ c) (bd : b ≠ d) (cd : c ≠ d) : f0 p0 a b c d = 1 := by
  have h1 : f1 a a d = 1 := by unfold f1; rw [if_pos rfl]
  have h2 : f1 b a d = 0 := by unfold f1; rw [if_neg (Ne.symm ab), if_neg bd]
  have h3 : f1 c a d = 0 := by unfold f1; rw [if_neg (Ne.symm ac), if_neg cd]
  have h4 : f1 d a d = 1 := by unfold f1; rw [if_neg (Ne.symm ad), if_pos rfl]
  have g1 : f2 a b = 1 := by unfold f2; rw [if_neg ab]
  have g4 : f2 d b = 1 := by unfold f2; rw [if_neg (Ne.symm bd)]
  unfold f0 f0_z0
  rw [h1, h2, h3, h4, g1, g4]
  rcases own_and3 p0 with q | q | q | q <;> rw [q] <;> rfl
def Q0 (Z : State) (p0 : Int32) (w_STANDALONE : Addr) (w_LOOKING : Addr) (w_FOLLOWER : Addr) (w_LEADER : Addr) (h0 : Heap) (n0 : Nat) (v : Option Value) (h : Heap) (L : List Loc) : Prop := v = some (.int (1 : Int32)) ∧ Fr n0 L
set_option maxRecDepth 65536 in
set_option maxHeartbeats 40000000 in
theorem rm0 (l : Launch) (Z : State) (aw : Array Value) (hw : ∀ d ∈ tables_1, d.before aw Z = true) (ws : List Jvm.Cond) (p0 : Int32) (w_STANDALONE : Addr) (w_LOOKING : Addr) (w_FOLLOWER : Addr) (w_LEADER : Addr) (h0 : Heap) (n0 : Nat) (Z0 : n0 ≤ h0.size) (S_STANDALONE : Sta Z h0 "com/example/quorumtree/quorumtree/server/Mode" "STANDALONE" "Lcom/example/quorumtree/quorumtree/server/Mode;" (.ref w_STANDALONE)) (E_w_STANDALONE : Exa Z h0 w_STANDALONE "com/example/quorumtree/quorumtree/server/Mode") (S_LOOKING : Sta Z h0 "com/example/quorumtree/quorumtree/server/Mode" "LOOKING" "Lcom/example/quorumtree/quorumtree/server/Mode;" (.ref w_LOOKING)) (E_w_LOOKING : Exa Z h0 w_LOOKING "com/example/quorumtree/quorumtree/server/Mode") (S_FOLLOWER : Sta Z h0 "com/example/quorumtree/quorumtree/server/Mode" "FOLLOWER" "Lcom/example/quorumtree/quorumtree/server/Mode;" (.ref w_FOLLOWER)) (E_w_FOLLOWER : Exa Z h0 w_FOLLOWER "com/example/quorumtree/quorumtree/server/Mode") (S_LEADER : Sta Z h0 "com/example/quorumtree/quorumtree/server/Mode" "LEADER" "Lcom/example/quorumtree/quorumtree/server/Mode;" (.ref w_LEADER)) (E_w_LEADER : Exa Z h0 w_LEADER "com/example/quorumtree/quorumtree/server/Mode") (ne_w_STANDALONE_w_LOOKING : w_STANDALONE ≠ w_LOOKING) (ne_w_STANDALONE_w_FOLLOWER : w_STANDALONE ≠ w_FOLLOWER) (ne_w_STANDALONE_w_LEADER : w_STANDALONE ≠ w_LEADER) (ne_w_LOOKING_w_FOLLOWER : w_LOOKING ≠ w_FOLLOWER) (ne_w_LOOKING_w_LEADER : w_LOOKING ≠ w_LEADER) (ne_w_FOLLOWER_w_LEADER : w_FOLLOWER ≠ w_LEADER) :
    MetFree l x (head1 (Jvm.Cond.code x code maxLocals ret :: ws) room_1) (fun a U => a = #[(.int p0)] ∧ Z.Warmed39 U.vm ∧ U.heap = h0) (fun _ _ _ _ _ => True) (fun _ U o U' => ∃ v L, o = .returned v ∧ Q0 Z p0 w_STANDALONE w_LOOKING w_FOLLOWER w_LEADER h0 n0 v U'.heap L ∧ FrameEnd U o U' L room_1.cells room_1.slots) := by
  refine MetFree.of_bodySF (plainFor_of_name pn_0) hisR ?_
  intro p e s m args below meth c s₁ Bd hml0 hP hK
  obtain ⟨rfl, hZ, hh⟩ := hP
  have hx := Bd.exec
  have hby := Bd.bytes
  have hml : c.maxLocals = 5 := hml0
  have hown : s.vm.findClass "com/example/quorumtree/quorumtree/server/ModeOrdersWritesPinLaw" = some m.cls := findClass_of_methodNamed Bd.named
  have hnm := (name_of_methodNamed Bd.named Bd.method).1
  have X0 : Stand p l e room_1 s m #[(.int p0)] below meth c s₁ [] 0 0 := Stand.of_body Bd
  have e0 : s₁.heap = h0 := by rw [← hh, Bd.state]; rfl
  have N0 := Fr.nil n0
  rw [ef_0 m p0]
  refine go_in (s₁ := s₁) (Q := Q0 Z p0 w_STANDALONE w_LOOKING w_FOLLOWER w_LEADER h0 n0) fun F hF => ?_
  refine go (B := s₁.setTop (mkF m 1 #[.val (.int p0), .unset, .unset, .unset, .unset] [(.int p0)])) (fun _ k => XS.iloadN X0.here hx rfl (hb hby at_0) rfl k) ?_
  refine go (B := s₁.setTop (mkF m 2 #[.val (.int p0), .unset, .unset, .unset, .unset] [(.int (3 : Int32)), (.int p0)])) (fun _ k => XS.iconst X0.here hx rfl (hb hby at_1) k) ?_
  refine go (B := s₁.setTop (mkF m 3 #[.val (.int p0), .unset, .unset, .unset, .unset] [(.int (p0 &&& (3 : Int32)))])) (fun _ k => XS.iand X0.here hx rfl (hb hby at_2) rfl k) ?_
  refine go (B := s₁.setTop (mkF m 4 #[.val (.int p0), .val (.int (p0 &&& (3 : Int32))), .unset, .unset, .unset] [])) (fun _ k => XS.istoreN X0.here hx rfl (hb hby at_3) rfl (l' := #[.val (.int p0), .val (.int (p0 &&& (3 : Int32))), .unset, .unset, .unset]) rfl k) ?_
  refine go (B := s₁.setTop (mkF m 5 #[.val (.int p0), .val (.int (p0 &&& (3 : Int32))), .unset, .unset, .unset] [(.int (p0 &&& (3 : Int32)))])) (fun _ k => XS.iloadN X0.here hx rfl (hb hby at_4) rfl k) ?_
  by_cases hc1 : (p0 &&& (3 : Int32)) = (0 : Int32)
  · refine go (B := s₁.setTop (mkF m 8 #[.val (.int p0), .val (.int (p0 &&& (3 : Int32))), .unset, .unset, .unset] [])) (fun _ k => XS.ifNo X0.here hx rfl (hb hby at_5) rfl ((if0 _ _).trans (teq hc1).2) k) ?_
    obtain ⟨T2, X2, e2, st2⟩ := getS2 X0 hx hZ hown (host := "") (Or.inl (hw _ (List.mem_of_getElem? (i := 0) rfl))) Via.refl e0 S_STANDALONE (g := (mkF m 8 #[.val (.int p0), .val (.int (p0 &&& (3 : Int32))), .unset, .unset, .unset] [])) rfl (hb hby at_8)
    refine go (B := T2.setTop (mkF m 11 #[.val (.int p0), .val (.int (p0 &&& (3 : Int32))), .unset, .unset, .unset] [(.ref w_STANDALONE)])) st2 ?_
    refine go (B := T2.setTop (mkF m 12 #[.val (.int p0), .val (.int (p0 &&& (3 : Int32))), .val (.ref w_STANDALONE), .unset, .unset] [])) (fun _ k => XS.astoreN X2.here hx rfl (hb hby at_11) rfl rfl (l' := #[.val (.int p0), .val (.int (p0 &&& (3 : Int32))), .val (.ref w_STANDALONE), .unset, .unset]) rfl k) ?_
    refine go (B := T2.setTop (mkF m 43 #[.val (.int p0), .val (.int (p0 &&& (3 : Int32))), .val (.ref w_STANDALONE), .unset, .unset] [])) (fun _ k => XS.goto X2.here hx rfl (pc0 := 12) (pc' := 43) rfl (hb hby at_12) (by decide) (by decide) k) ?_
    refine go (B := T2.setTop (mkF m 44 #[.val (.int p0), .val (.int (p0 &&& (3 : Int32))), .val (.ref w_STANDALONE), .unset, .unset] [(.ref w_STANDALONE)])) (fun _ k => XS.aloadN X2.here hx rfl (hb hby at_43) rfl rfl k) ?_
    obtain ⟨cq3, kq3, q3a, q3b, q3c⟩ := isOf hZ e2 E_w_STANDALONE
    obtain ⟨_, _, ⟨T3, L3, k3, n3⟩, -, X3, ⟨Lc3, hQ3, l3, y3, z3⟩, st3⟩ := X2.virtualBack hx (y := (⟨"com/example/quorumtree/quorumtree/server/Mode", "ordersWrites", "()Z"⟩ : MethodName)) (z := (⟨"com/example/quorumtree/quorumtree/server/Mode", "ordersWrites", "()Z"⟩ : MethodName)) hown (mvT hZ (hw _ (List.mem_of_getElem? (i := 3) rfl))) (mvT hZ (hw _ (List.mem_of_getElem? (i := 4) rfl))) (notFace_of_selects (args := #[]) (mvT hZ (hw _ (List.mem_of_getElem? (i := 6) rfl)))) (mvT hZ (hw _ (List.mem_of_getElem? (i := 6) rfl))) (mvT hZ (hw _ (List.mem_of_getElem? (i := 5) rfl))) (by decide) (backOf (W := 0) (rm1 l Z aw hw [] w_STANDALONE w_STANDALONE w_LEADER h0 n0 Z0 S_STANDALONE S_LEADER) hZ (hw _ (List.mem_of_getElem? (i := 7) rfl)) (hw _ (List.mem_of_getElem? (i := 1) rfl)) (by decide) (by decide)) q3a q3c (g := (mkF m 44 #[.val (.int p0), .val (.int (p0 &&& (3 : Int32))), .val (.ref w_STANDALONE), .unset, .unset] [(.ref w_STANDALONE)])) rfl (by rw [hml]; rfl) (Steps.refl _) (argsL := []) (rest := []) (lenOf pd_0 rfl) rfl (by show 2 * 0 + _ ≤ _; exact Nat.le_of_eq rfl) (hb hby at_44) (fun _ _ => ⟨rfl, e2, (by decide : 0 + 0 ≤ _), (by decide : 0 + 0 ≤ _)⟩)
    dsimp only [Pt.U, Pt.locs, Pt.cells, Pt.slots] at X3 l3 y3 z3 st3 hQ3
    subst l3 y3 z3
    obtain ⟨rfl, rfl, e3⟩ := hQ3
    have N3 := Fr.app N0 (Fr.nil n0)
    refine go (B := T3.setTop (mkF m 47 #[.val (.int p0), .val (.int (p0 &&& (3 : Int32))), .val (.ref w_STANDALONE), .unset, .unset] [(.int (f1 w_STANDALONE w_STANDALONE w_LEADER))])) (fun _ k => st3.trans k) ?_
    refine go (B := T3.setTop (mkF m 48 #[.val (.int p0), .val (.int (p0 &&& (3 : Int32))), .val (.ref w_STANDALONE), .val (.int (f1 w_STANDALONE w_STANDALONE w_LEADER)), .unset] [])) (fun _ k => XS.istoreN X3.here hx rfl (hb hby at_47) rfl (l' := #[.val (.int p0), .val (.int (p0 &&& (3 : Int32))), .val (.ref w_STANDALONE), .val (.int (f1 w_STANDALONE w_STANDALONE w_LEADER)), .unset]) rfl k) ?_
    refine go (B := T3.setTop (mkF m 49 #[.val (.int p0), .val (.int (p0 &&& (3 : Int32))), .val (.ref w_STANDALONE), .val (.int (f1 w_STANDALONE w_STANDALONE w_LEADER)), .unset] [(.int (p0 &&& (3 : Int32)))])) (fun _ k => XS.iloadN X3.here hx rfl (hb hby at_48) rfl k) ?_
    refine go (B := T3.setTop (mkF m 57 #[.val (.int p0), .val (.int (p0 &&& (3 : Int32))), .val (.ref w_STANDALONE), .val (.int (f1 w_STANDALONE w_STANDALONE w_LEADER)), .unset] [])) (fun _ k => XS.ifYes X3.here hx rfl (pc0 := 49) (pc' := 57) rfl (hb hby at_49) rfl ((if0 _ _).trans (teq hc1).1) (by decide) (by decide) k) ?_
    refine go (B := T3.setTop (mkF m 58 #[.val (.int p0), .val (.int (p0 &&& (3 : Int32))), .val (.ref w_STANDALONE), .val (.int (f1 w_STANDALONE w_STANDALONE w_LEADER)), .unset] [(.int (1 : Int32))])) (fun _ k => XS.iconst X3.here hx rfl (hb hby at_57) k) ?_
    refine go (B := T3.setTop (mkF m 62 #[.val (.int p0), .val (.int (p0 &&& (3 : Int32))), .val (.ref w_STANDALONE), .val (.int (f1 w_STANDALONE w_STANDALONE w_LEADER)), .unset] [(.int (1 : Int32))])) (fun _ k => XS.goto X3.here hx rfl (pc0 := 58) (pc' := 62) rfl (hb hby at_58) (by decide) (by decide) k) ?_
    refine go (B := T3.setTop (mkF m 64 #[.val (.int p0), .val (.int (p0 &&& (3 : Int32))), .val (.ref w_STANDALONE), .val (.int (f1 w_STANDALONE w_STANDALONE w_LEADER)), .val (.int (1 : Int32))] [])) (fun _ k => XS.istore X3.here hx rfl (hb hby at_62) rfl (l' := #[.val (.int p0), .val (.int (p0 &&& (3 : Int32))), .val (.ref w_STANDALONE), .val (.int (f1 w_STANDALONE w_STANDALONE w_LEADER)), .val (.int (1 : Int32))]) rfl k) ?_
    refine go (B := T3.setTop (mkF m 65 #[.val (.int p0), .val (.int (p0 &&& (3 : Int32))), .val (.ref w_STANDALONE), .val (.int (f1 w_STANDALONE w_STANDALONE w_LEADER)), .val (.int (1 : Int32))] [(.int (f1 w_STANDALONE w_STANDALONE w_LEADER))])) (fun _ k => XS.iloadN X3.here hx rfl (hb hby at_64) rfl k) ?_
    refine go (B := T3.setTop (mkF m 67 #[.val (.int p0), .val (.int (p0 &&& (3 : Int32))), .val (.ref w_STANDALONE), .val (.int (f1 w_STANDALONE w_STANDALONE w_LEADER)), .val (.int (1 : Int32))] [(.int (1 : Int32)), (.int (f1 w_STANDALONE w_STANDALONE w_LEADER))])) (fun _ k => XS.iload X3.here hx rfl (hb hby at_65) rfl k) ?_
    by_cases hc4 : (f1 w_STANDALONE w_STANDALONE w_LEADER) = (1 : Int32)
    · refine go (B := T3.setTop (mkF m 70 #[.val (.int p0), .val (.int (p0 &&& (3 : Int32))), .val (.ref w_STANDALONE), .val (.int (f1 w_STANDALONE w_STANDALONE w_LEADER)), .val (.int (1 : Int32))] [])) (fun _ k => XS.icmpNo X3.here hx rfl (hb hby at_67) rfl (teq hc4).2 k) ?_
      refine go (B := T3.setTop (mkF m 71 #[.val (.int p0), .val (.int (p0 &&& (3 : Int32))), .val (.ref w_STANDALONE), .val (.int (f1 w_STANDALONE w_STANDALONE w_LEADER)), .val (.int (1 : Int32))] [(.int (f1 w_STANDALONE w_STANDALONE w_LEADER))])) (fun _ k => XS.iloadN X3.here hx rfl (hb hby at_70) rfl k) ?_
      refine go (B := T3.setTop (mkF m 74 #[.val (.int p0), .val (.int (p0 &&& (3 : Int32))), .val (.ref w_STANDALONE), .val (.int (f1 w_STANDALONE w_STANDALONE w_LEADER)), .val (.int (1 : Int32))] [])) (fun _ k => XS.ifNo X3.here hx rfl (hb hby at_71) rfl ((if0 _ _).trans (feq (show ¬ ((f1 w_STANDALONE w_STANDALONE w_LEADER) = (0 : Int32)) from by revert hc4; simp only [Int32.lt_iff_toInt_lt, ← Int32.toInt_inj, Int32.reduceToInt]; omega)).1) k) ?_
      refine go (B := T3.setTop (mkF m 75 #[.val (.int p0), .val (.int (p0 &&& (3 : Int32))), .val (.ref w_STANDALONE), .val (.int (f1 w_STANDALONE w_STANDALONE w_LEADER)), .val (.int (1 : Int32))] [(.ref w_STANDALONE)])) (fun _ k => XS.aloadN X3.here hx rfl (hb hby at_74) rfl rfl k) ?_
      obtain ⟨cq5, kq5, q5a, q5b, q5c⟩ := isOf hZ e3 E_w_STANDALONE
      obtain ⟨_, _, ⟨T5, L5, k5, n5⟩, -, X5, ⟨Lc5, hQ5, l5, y5, z5⟩, st5⟩ := X3.virtualBack hx (y := (⟨"com/example/quorumtree/quorumtree/server/Mode", "servesClients", "()Z"⟩ : MethodName)) (z := (⟨"com/example/quorumtree/quorumtree/server/Mode", "servesClients", "()Z"⟩ : MethodName)) hown (mvT hZ (hw _ (List.mem_of_getElem? (i := 9) rfl))) (mvT hZ (hw _ (List.mem_of_getElem? (i := 10) rfl))) (notFace_of_selects (args := #[]) (mvT hZ (hw _ (List.mem_of_getElem? (i := 12) rfl)))) (mvT hZ (hw _ (List.mem_of_getElem? (i := 12) rfl))) (mvT hZ (hw _ (List.mem_of_getElem? (i := 11) rfl))) (by decide) (backOf (W := 0) (rm2 l Z aw hw [] w_STANDALONE w_LOOKING h0 n0 Z0 S_LOOKING) hZ (hw _ (List.mem_of_getElem? (i := 13) rfl)) (hw _ (List.mem_of_getElem? (i := 1) rfl)) (by decide) (by decide)) q5a q5c (g := (mkF m 75 #[.val (.int p0), .val (.int (p0 &&& (3 : Int32))), .val (.ref w_STANDALONE), .val (.int (f1 w_STANDALONE w_STANDALONE w_LEADER)), .val (.int (1 : Int32))] [(.ref w_STANDALONE)])) rfl (by rw [hml]; rfl) (Steps.refl _) (argsL := []) (rest := []) (lenOf pd_0 rfl) rfl (by show 2 * 0 + _ ≤ _; exact Nat.le_of_eq rfl) (hb hby at_75) (fun _ _ => ⟨rfl, e3, (by decide : 0 + 0 ≤ _), (by decide : 0 + 0 ≤ _)⟩)
      dsimp only [Pt.U, Pt.locs, Pt.cells, Pt.slots] at X5 l5 y5 z5 st5 hQ5
      subst l5 y5 z5
      obtain ⟨rfl, rfl, e5⟩ := hQ5
      have N5 := Fr.app N3 (Fr.nil n0)
      refine go (B := T5.setTop (mkF m 78 #[.val (.int p0), .val (.int (p0 &&& (3 : Int32))), .val (.ref w_STANDALONE), .val (.int (f1 w_STANDALONE w_STANDALONE w_LEADER)), .val (.int (1 : Int32))] [(.int (f2 w_STANDALONE w_LOOKING))])) (fun _ k => st5.trans k) ?_
      by_cases hc6 : (f2 w_STANDALONE w_LOOKING) = (0 : Int32)
      · refine go (B := T5.setTop (mkF m 85 #[.val (.int p0), .val (.int (p0 &&& (3 : Int32))), .val (.ref w_STANDALONE), .val (.int (f1 w_STANDALONE w_STANDALONE w_LEADER)), .val (.int (1 : Int32))] [])) (fun _ k => XS.ifYes X5.here hx rfl (pc0 := 78) (pc' := 85) rfl (hb hby at_78) rfl ((if0 _ _).trans (teq hc6).1) (by decide) (by decide) k) ?_
        refine go (B := T5.setTop (mkF m 86 #[.val (.int p0), .val (.int (p0 &&& (3 : Int32))), .val (.ref w_STANDALONE), .val (.int (f1 w_STANDALONE w_STANDALONE w_LEADER)), .val (.int (1 : Int32))] [(.int (0 : Int32))])) (fun _ k => XS.iconst X5.here hx rfl (hb hby at_85) k) ?_
        have r7 : (f0 p0 w_STANDALONE w_LOOKING w_FOLLOWER w_LEADER) = (0 : Int32) := by unfold f0; rw [if_pos hc1, if_pos hc4, if_pos hc6]
        exact end_nar X5 hx Bd.notSynchronized (t := .boolean) Bd.returns (by simp) (hb hby at_86) hF e5 (by decide) (by decide) ⟨(congrArg (fun z => some (Value.int z)) (r7.symm.trans (own_law p0 w_STANDALONE w_LOOKING w_FOLLOWER w_LEADER ne_w_STANDALONE_w_LOOKING ne_w_STANDALONE_w_FOLLOWER ne_w_STANDALONE_w_LEADER ne_w_LOOKING_w_FOLLOWER ne_w_LOOKING_w_LEADER ne_w_FOLLOWER_w_LEADER))), N5⟩
      · refine go (B := T5.setTop (mkF m 81 #[.val (.int p0), .val (.int (p0 &&& (3 : Int32))), .val (.ref w_STANDALONE), .val (.int (f1 w_STANDALONE w_STANDALONE w_LEADER)), .val (.int (1 : Int32))] [])) (fun _ k => XS.ifNo X5.here hx rfl (hb hby at_78) rfl ((if0 _ _).trans (feq hc6).1) k) ?_
        refine go (B := T5.setTop (mkF m 82 #[.val (.int p0), .val (.int (p0 &&& (3 : Int32))), .val (.ref w_STANDALONE), .val (.int (f1 w_STANDALONE w_STANDALONE w_LEADER)), .val (.int (1 : Int32))] [(.int (1 : Int32))])) (fun _ k => XS.iconst X5.here hx rfl (hb hby at_81) k) ?_
        refine go (B := T5.setTop (mkF m 86 #[.val (.int p0), .val (.int (p0 &&& (3 : Int32))), .val (.ref w_STANDALONE), .val (.int (f1 w_STANDALONE w_STANDALONE w_LEADER)), .val (.int (1 : Int32))] [(.int (1 : Int32))])) (fun _ k => XS.goto X5.here hx rfl (pc0 := 82) (pc' := 86) rfl (hb hby at_82) (by decide) (by decide) k) ?_
        have r8 : (f0 p0 w_STANDALONE w_LOOKING w_FOLLOWER w_LEADER) = (1 : Int32) := by unfold f0; rw [if_pos hc1, if_pos hc4, if_neg hc6]
        exact end_nar X5 hx Bd.notSynchronized (t := .boolean) Bd.returns (by simp) (hb hby at_86) hF e5 (by decide) (by decide) ⟨(congrArg (fun z => some (Value.int z)) (r8.symm.trans (own_law p0 w_STANDALONE w_LOOKING w_FOLLOWER w_LEADER ne_w_STANDALONE_w_LOOKING ne_w_STANDALONE_w_FOLLOWER ne_w_STANDALONE_w_LEADER ne_w_LOOKING_w_FOLLOWER ne_w_LOOKING_w_LEADER ne_w_FOLLOWER_w_LEADER))), N5⟩
    · refine go (B := T3.setTop (mkF m 85 #[.val (.int p0), .val (.int (p0 &&& (3 : Int32))), .val (.ref w_STANDALONE), .val (.int (f1 w_STANDALONE w_STANDALONE w_LEADER)), .val (.int (1 : Int32))] [])) (fun _ k => XS.icmpYes X3.here hx rfl (pc0 := 67) (pc' := 85) rfl (hb hby at_67) rfl (feq hc4).2 (by decide) (by decide) k) ?_
      refine go (B := T3.setTop (mkF m 86 #[.val (.int p0), .val (.int (p0 &&& (3 : Int32))), .val (.ref w_STANDALONE), .val (.int (f1 w_STANDALONE w_STANDALONE w_LEADER)), .val (.int (1 : Int32))] [(.int (0 : Int32))])) (fun _ k => XS.iconst X3.here hx rfl (hb hby at_85) k) ?_
      have r9 : (f0 p0 w_STANDALONE w_LOOKING w_FOLLOWER w_LEADER) = (0 : Int32) := by unfold f0; rw [if_pos hc1, if_neg hc4]
      exact end_nar X3 hx Bd.notSynchronized (t := .boolean) Bd.returns (by simp) (hb hby at_86) hF e3 (by decide) (by decide) ⟨(congrArg (fun z => some (Value.int z)) (r9.symm.trans (own_law p0 w_STANDALONE w_LOOKING w_FOLLOWER w_LEADER ne_w_STANDALONE_w_LOOKING ne_w_STANDALONE_w_FOLLOWER ne_w_STANDALONE_w_LEADER ne_w_LOOKING_w_FOLLOWER ne_w_LOOKING_w_LEADER ne_w_FOLLOWER_w_LEADER))), N3⟩
  · refine go (B := s₁.setTop (mkF m 15 #[.val (.int p0), .val (.int (p0 &&& (3 : Int32))), .unset, .unset, .unset] [])) (fun _ k => XS.ifYes X0.here hx rfl (pc0 := 5) (pc' := 15) rfl (hb hby at_5) rfl ((if0 _ _).trans (feq hc1).2) (by decide) (by decide) k) ?_
    refine go (B := s₁.setTop (mkF m 16 #[.val (.int p0), .val (.int (p0 &&& (3 : Int32))), .unset, .unset, .unset] [(.int (p0 &&& (3 : Int32)))])) (fun _ k => XS.iloadN X0.here hx rfl (hb hby at_15) rfl k) ?_
    refine go (B := s₁.setTop (mkF m 17 #[.val (.int p0), .val (.int (p0 &&& (3 : Int32))), .unset, .unset, .unset] [(.int (1 : Int32)), (.int (p0 &&& (3 : Int32)))])) (fun _ k => XS.iconst X0.here hx rfl (hb hby at_16) k) ?_
    by_cases hc10 : (p0 &&& (3 : Int32)) = (1 : Int32)
    · refine go (B := s₁.setTop (mkF m 20 #[.val (.int p0), .val (.int (p0 &&& (3 : Int32))), .unset, .unset, .unset] [])) (fun _ k => XS.icmpNo X0.here hx rfl (hb hby at_17) rfl (teq hc10).2 k) ?_
      obtain ⟨T11, X11, e11, st11⟩ := getS2 X0 hx hZ hown (host := "") (Or.inl (hw _ (List.mem_of_getElem? (i := 21) rfl))) Via.refl e0 S_LOOKING (g := (mkF m 20 #[.val (.int p0), .val (.int (p0 &&& (3 : Int32))), .unset, .unset, .unset] [])) rfl (hb hby at_20)
      refine go (B := T11.setTop (mkF m 23 #[.val (.int p0), .val (.int (p0 &&& (3 : Int32))), .unset, .unset, .unset] [(.ref w_LOOKING)])) st11 ?_
      refine go (B := T11.setTop (mkF m 24 #[.val (.int p0), .val (.int (p0 &&& (3 : Int32))), .val (.ref w_LOOKING), .unset, .unset] [])) (fun _ k => XS.astoreN X11.here hx rfl (hb hby at_23) rfl rfl (l' := #[.val (.int p0), .val (.int (p0 &&& (3 : Int32))), .val (.ref w_LOOKING), .unset, .unset]) rfl k) ?_
      refine go (B := T11.setTop (mkF m 43 #[.val (.int p0), .val (.int (p0 &&& (3 : Int32))), .val (.ref w_LOOKING), .unset, .unset] [])) (fun _ k => XS.goto X11.here hx rfl (pc0 := 24) (pc' := 43) rfl (hb hby at_24) (by decide) (by decide) k) ?_
      refine go (B := T11.setTop (mkF m 44 #[.val (.int p0), .val (.int (p0 &&& (3 : Int32))), .val (.ref w_LOOKING), .unset, .unset] [(.ref w_LOOKING)])) (fun _ k => XS.aloadN X11.here hx rfl (hb hby at_43) rfl rfl k) ?_
      obtain ⟨cq12, kq12, q12a, q12b, q12c⟩ := isOf hZ e11 E_w_LOOKING
      obtain ⟨_, _, ⟨T12, L12, k12, n12⟩, -, X12, ⟨Lc12, hQ12, l12, y12, z12⟩, st12⟩ := X11.virtualBack hx (y := (⟨"com/example/quorumtree/quorumtree/server/Mode", "ordersWrites", "()Z"⟩ : MethodName)) (z := (⟨"com/example/quorumtree/quorumtree/server/Mode", "ordersWrites", "()Z"⟩ : MethodName)) hown (mvT hZ (hw _ (List.mem_of_getElem? (i := 3) rfl))) (mvT hZ (hw _ (List.mem_of_getElem? (i := 4) rfl))) (notFace_of_selects (args := #[]) (mvT hZ (hw _ (List.mem_of_getElem? (i := 6) rfl)))) (mvT hZ (hw _ (List.mem_of_getElem? (i := 6) rfl))) (mvT hZ (hw _ (List.mem_of_getElem? (i := 5) rfl))) (by decide) (backOf (W := 0) (rm1 l Z aw hw [] w_LOOKING w_STANDALONE w_LEADER h0 n0 Z0 S_STANDALONE S_LEADER) hZ (hw _ (List.mem_of_getElem? (i := 7) rfl)) (hw _ (List.mem_of_getElem? (i := 1) rfl)) (by decide) (by decide)) q12a q12c (g := (mkF m 44 #[.val (.int p0), .val (.int (p0 &&& (3 : Int32))), .val (.ref w_LOOKING), .unset, .unset] [(.ref w_LOOKING)])) rfl (by rw [hml]; rfl) (Steps.refl _) (argsL := []) (rest := []) (lenOf pd_0 rfl) rfl (by show 2 * 0 + _ ≤ _; exact Nat.le_of_eq rfl) (hb hby at_44) (fun _ _ => ⟨rfl, e11, (by decide : 0 + 0 ≤ _), (by decide : 0 + 0 ≤ _)⟩)
      dsimp only [Pt.U, Pt.locs, Pt.cells, Pt.slots] at X12 l12 y12 z12 st12 hQ12
      subst l12 y12 z12
      obtain ⟨rfl, rfl, e12⟩ := hQ12
      have N12 := Fr.app N0 (Fr.nil n0)
      refine go (B := T12.setTop (mkF m 47 #[.val (.int p0), .val (.int (p0 &&& (3 : Int32))), .val (.ref w_LOOKING), .unset, .unset] [(.int (f1 w_LOOKING w_STANDALONE w_LEADER))])) (fun _ k => st12.trans k) ?_
      refine go (B := T12.setTop (mkF m 48 #[.val (.int p0), .val (.int (p0 &&& (3 : Int32))), .val (.ref w_LOOKING), .val (.int (f1 w_LOOKING w_STANDALONE w_LEADER)), .unset] [])) (fun _ k => XS.istoreN X12.here hx rfl (hb hby at_47) rfl (l' := #[.val (.int p0), .val (.int (p0 &&& (3 : Int32))), .val (.ref w_LOOKING), .val (.int (f1 w_LOOKING w_STANDALONE w_LEADER)), .unset]) rfl k) ?_
      refine go (B := T12.setTop (mkF m 49 #[.val (.int p0), .val (.int (p0 &&& (3 : Int32))), .val (.ref w_LOOKING), .val (.int (f1 w_LOOKING w_STANDALONE w_LEADER)), .unset] [(.int (p0 &&& (3 : Int32)))])) (fun _ k => XS.iloadN X12.here hx rfl (hb hby at_48) rfl k) ?_
      refine go (B := T12.setTop (mkF m 52 #[.val (.int p0), .val (.int (p0 &&& (3 : Int32))), .val (.ref w_LOOKING), .val (.int (f1 w_LOOKING w_STANDALONE w_LEADER)), .unset] [])) (fun _ k => XS.ifNo X12.here hx rfl (hb hby at_49) rfl ((if0 _ _).trans (feq hc1).1) k) ?_
      refine go (B := T12.setTop (mkF m 53 #[.val (.int p0), .val (.int (p0 &&& (3 : Int32))), .val (.ref w_LOOKING), .val (.int (f1 w_LOOKING w_STANDALONE w_LEADER)), .unset] [(.int (p0 &&& (3 : Int32)))])) (fun _ k => XS.iloadN X12.here hx rfl (hb hby at_52) rfl k) ?_
      refine go (B := T12.setTop (mkF m 54 #[.val (.int p0), .val (.int (p0 &&& (3 : Int32))), .val (.ref w_LOOKING), .val (.int (f1 w_LOOKING w_STANDALONE w_LEADER)), .unset] [(.int (3 : Int32)), (.int (p0 &&& (3 : Int32)))])) (fun _ k => XS.iconst X12.here hx rfl (hb hby at_53) k) ?_
      refine go (B := T12.setTop (mkF m 61 #[.val (.int p0), .val (.int (p0 &&& (3 : Int32))), .val (.ref w_LOOKING), .val (.int (f1 w_LOOKING w_STANDALONE w_LEADER)), .unset] [])) (fun _ k => XS.icmpYes X12.here hx rfl (pc0 := 54) (pc' := 61) rfl (hb hby at_54) rfl (feq (show ¬ ((p0 &&& (3 : Int32)) = (3 : Int32)) from by revert hc1 hc10; simp only [Int32.lt_iff_toInt_lt, ← Int32.toInt_inj, Int32.reduceToInt]; omega)).2 (by decide) (by decide) k) ?_
      refine go (B := T12.setTop (mkF m 62 #[.val (.int p0), .val (.int (p0 &&& (3 : Int32))), .val (.ref w_LOOKING), .val (.int (f1 w_LOOKING w_STANDALONE w_LEADER)), .unset] [(.int (0 : Int32))])) (fun _ k => XS.iconst X12.here hx rfl (hb hby at_61) k) ?_
      refine go (B := T12.setTop (mkF m 64 #[.val (.int p0), .val (.int (p0 &&& (3 : Int32))), .val (.ref w_LOOKING), .val (.int (f1 w_LOOKING w_STANDALONE w_LEADER)), .val (.int (0 : Int32))] [])) (fun _ k => XS.istore X12.here hx rfl (hb hby at_62) rfl (l' := #[.val (.int p0), .val (.int (p0 &&& (3 : Int32))), .val (.ref w_LOOKING), .val (.int (f1 w_LOOKING w_STANDALONE w_LEADER)), .val (.int (0 : Int32))]) rfl k) ?_
      refine go (B := T12.setTop (mkF m 65 #[.val (.int p0), .val (.int (p0 &&& (3 : Int32))), .val (.ref w_LOOKING), .val (.int (f1 w_LOOKING w_STANDALONE w_LEADER)), .val (.int (0 : Int32))] [(.int (f1 w_LOOKING w_STANDALONE w_LEADER))])) (fun _ k => XS.iloadN X12.here hx rfl (hb hby at_64) rfl k) ?_
      refine go (B := T12.setTop (mkF m 67 #[.val (.int p0), .val (.int (p0 &&& (3 : Int32))), .val (.ref w_LOOKING), .val (.int (f1 w_LOOKING w_STANDALONE w_LEADER)), .val (.int (0 : Int32))] [(.int (0 : Int32)), (.int (f1 w_LOOKING w_STANDALONE w_LEADER))])) (fun _ k => XS.iload X12.here hx rfl (hb hby at_65) rfl k) ?_
      by_cases hc13 : (f1 w_LOOKING w_STANDALONE w_LEADER) = (0 : Int32)
      · refine go (B := T12.setTop (mkF m 70 #[.val (.int p0), .val (.int (p0 &&& (3 : Int32))), .val (.ref w_LOOKING), .val (.int (f1 w_LOOKING w_STANDALONE w_LEADER)), .val (.int (0 : Int32))] [])) (fun _ k => XS.icmpNo X12.here hx rfl (hb hby at_67) rfl (teq hc13).2 k) ?_
        refine go (B := T12.setTop (mkF m 71 #[.val (.int p0), .val (.int (p0 &&& (3 : Int32))), .val (.ref w_LOOKING), .val (.int (f1 w_LOOKING w_STANDALONE w_LEADER)), .val (.int (0 : Int32))] [(.int (f1 w_LOOKING w_STANDALONE w_LEADER))])) (fun _ k => XS.iloadN X12.here hx rfl (hb hby at_70) rfl k) ?_
        refine go (B := T12.setTop (mkF m 81 #[.val (.int p0), .val (.int (p0 &&& (3 : Int32))), .val (.ref w_LOOKING), .val (.int (f1 w_LOOKING w_STANDALONE w_LEADER)), .val (.int (0 : Int32))] [])) (fun _ k => XS.ifYes X12.here hx rfl (pc0 := 71) (pc' := 81) rfl (hb hby at_71) rfl ((if0 _ _).trans (teq hc13).1) (by decide) (by decide) k) ?_
        refine go (B := T12.setTop (mkF m 82 #[.val (.int p0), .val (.int (p0 &&& (3 : Int32))), .val (.ref w_LOOKING), .val (.int (f1 w_LOOKING w_STANDALONE w_LEADER)), .val (.int (0 : Int32))] [(.int (1 : Int32))])) (fun _ k => XS.iconst X12.here hx rfl (hb hby at_81) k) ?_
        refine go (B := T12.setTop (mkF m 86 #[.val (.int p0), .val (.int (p0 &&& (3 : Int32))), .val (.ref w_LOOKING), .val (.int (f1 w_LOOKING w_STANDALONE w_LEADER)), .val (.int (0 : Int32))] [(.int (1 : Int32))])) (fun _ k => XS.goto X12.here hx rfl (pc0 := 82) (pc' := 86) rfl (hb hby at_82) (by decide) (by decide) k) ?_
        have r14 : (f0 p0 w_STANDALONE w_LOOKING w_FOLLOWER w_LEADER) = (1 : Int32) := by unfold f0; rw [if_neg hc1, if_pos hc10, if_pos hc13]
        exact end_nar X12 hx Bd.notSynchronized (t := .boolean) Bd.returns (by simp) (hb hby at_86) hF e12 (by decide) (by decide) ⟨(congrArg (fun z => some (Value.int z)) (r14.symm.trans (own_law p0 w_STANDALONE w_LOOKING w_FOLLOWER w_LEADER ne_w_STANDALONE_w_LOOKING ne_w_STANDALONE_w_FOLLOWER ne_w_STANDALONE_w_LEADER ne_w_LOOKING_w_FOLLOWER ne_w_LOOKING_w_LEADER ne_w_FOLLOWER_w_LEADER))), N12⟩
      · refine go (B := T12.setTop (mkF m 85 #[.val (.int p0), .val (.int (p0 &&& (3 : Int32))), .val (.ref w_LOOKING), .val (.int (f1 w_LOOKING w_STANDALONE w_LEADER)), .val (.int (0 : Int32))] [])) (fun _ k => XS.icmpYes X12.here hx rfl (pc0 := 67) (pc' := 85) rfl (hb hby at_67) rfl (feq hc13).2 (by decide) (by decide) k) ?_
        refine go (B := T12.setTop (mkF m 86 #[.val (.int p0), .val (.int (p0 &&& (3 : Int32))), .val (.ref w_LOOKING), .val (.int (f1 w_LOOKING w_STANDALONE w_LEADER)), .val (.int (0 : Int32))] [(.int (0 : Int32))])) (fun _ k => XS.iconst X12.here hx rfl (hb hby at_85) k) ?_
        have r15 : (f0 p0 w_STANDALONE w_LOOKING w_FOLLOWER w_LEADER) = (0 : Int32) := by unfold f0; rw [if_neg hc1, if_pos hc10, if_neg hc13]
        exact end_nar X12 hx Bd.notSynchronized (t := .boolean) Bd.returns (by simp) (hb hby at_86) hF e12 (by decide) (by decide) ⟨(congrArg (fun z => some (Value.int z)) (r15.symm.trans (own_law p0 w_STANDALONE w_LOOKING w_FOLLOWER w_LEADER ne_w_STANDALONE_w_LOOKING ne_w_STANDALONE_w_FOLLOWER ne_w_STANDALONE_w_LEADER ne_w_LOOKING_w_FOLLOWER ne_w_LOOKING_w_LEADER ne_w_FOLLOWER_w_LEADER))), N12⟩
    · refine go (B := s₁.setTop (mkF m 27 #[.val (.int p0), .val (.int (p0 &&& (3 : Int32))), .unset, .unset, .unset] [])) (fun _ k => XS.icmpYes X0.here hx rfl (pc0 := 17) (pc' := 27) rfl (hb hby at_17) rfl (feq hc10).2 (by decide) (by decide) k) ?_
      refine go (B := s₁.setTop (mkF m 28 #[.val (.int p0), .val (.int (p0 &&& (3 : Int32))), .unset, .unset, .unset] [(.int (p0 &&& (3 : Int32)))])) (fun _ k => XS.iloadN X0.here hx rfl (hb hby at_27) rfl k) ?_
      refine go (B := s₁.setTop (mkF m 29 #[.val (.int p0), .val (.int (p0 &&& (3 : Int32))), .unset, .unset, .unset] [(.int (2 : Int32)), (.int (p0 &&& (3 : Int32)))])) (fun _ k => XS.iconst X0.here hx rfl (hb hby at_28) k) ?_
      by_cases hc16 : (p0 &&& (3 : Int32)) = (2 : Int32)
      · refine go (B := s₁.setTop (mkF m 32 #[.val (.int p0), .val (.int (p0 &&& (3 : Int32))), .unset, .unset, .unset] [])) (fun _ k => XS.icmpNo X0.here hx rfl (hb hby at_29) rfl (teq hc16).2 k) ?_
        obtain ⟨T17, X17, e17, st17⟩ := getS2 X0 hx hZ hown (host := "") (Or.inl (hw _ (List.mem_of_getElem? (i := 19) rfl))) Via.refl e0 S_FOLLOWER (g := (mkF m 32 #[.val (.int p0), .val (.int (p0 &&& (3 : Int32))), .unset, .unset, .unset] [])) rfl (hb hby at_32)
        refine go (B := T17.setTop (mkF m 35 #[.val (.int p0), .val (.int (p0 &&& (3 : Int32))), .unset, .unset, .unset] [(.ref w_FOLLOWER)])) st17 ?_
        refine go (B := T17.setTop (mkF m 36 #[.val (.int p0), .val (.int (p0 &&& (3 : Int32))), .val (.ref w_FOLLOWER), .unset, .unset] [])) (fun _ k => XS.astoreN X17.here hx rfl (hb hby at_35) rfl rfl (l' := #[.val (.int p0), .val (.int (p0 &&& (3 : Int32))), .val (.ref w_FOLLOWER), .unset, .unset]) rfl k) ?_
        refine go (B := T17.setTop (mkF m 43 #[.val (.int p0), .val (.int (p0 &&& (3 : Int32))), .val (.ref w_FOLLOWER), .unset, .unset] [])) (fun _ k => XS.goto X17.here hx rfl (pc0 := 36) (pc' := 43) rfl (hb hby at_36) (by decide) (by decide) k) ?_
        refine go (B := T17.setTop (mkF m 44 #[.val (.int p0), .val (.int (p0 &&& (3 : Int32))), .val (.ref w_FOLLOWER), .unset, .unset] [(.ref w_FOLLOWER)])) (fun _ k => XS.aloadN X17.here hx rfl (hb hby at_43) rfl rfl k) ?_
        obtain ⟨cq18, kq18, q18a, q18b, q18c⟩ := isOf hZ e17 E_w_FOLLOWER
        obtain ⟨_, _, ⟨T18, L18, k18, n18⟩, -, X18, ⟨Lc18, hQ18, l18, y18, z18⟩, st18⟩ := X17.virtualBack hx (y := (⟨"com/example/quorumtree/quorumtree/server/Mode", "ordersWrites", "()Z"⟩ : MethodName)) (z := (⟨"com/example/quorumtree/quorumtree/server/Mode", "ordersWrites", "()Z"⟩ : MethodName)) hown (mvT hZ (hw _ (List.mem_of_getElem? (i := 3) rfl))) (mvT hZ (hw _ (List.mem_of_getElem? (i := 4) rfl))) (notFace_of_selects (args := #[]) (mvT hZ (hw _ (List.mem_of_getElem? (i := 6) rfl)))) (mvT hZ (hw _ (List.mem_of_getElem? (i := 6) rfl))) (mvT hZ (hw _ (List.mem_of_getElem? (i := 5) rfl))) (by decide) (backOf (W := 0) (rm1 l Z aw hw [] w_FOLLOWER w_STANDALONE w_LEADER h0 n0 Z0 S_STANDALONE S_LEADER) hZ (hw _ (List.mem_of_getElem? (i := 7) rfl)) (hw _ (List.mem_of_getElem? (i := 1) rfl)) (by decide) (by decide)) q18a q18c (g := (mkF m 44 #[.val (.int p0), .val (.int (p0 &&& (3 : Int32))), .val (.ref w_FOLLOWER), .unset, .unset] [(.ref w_FOLLOWER)])) rfl (by rw [hml]; rfl) (Steps.refl _) (argsL := []) (rest := []) (lenOf pd_0 rfl) rfl (by show 2 * 0 + _ ≤ _; exact Nat.le_of_eq rfl) (hb hby at_44) (fun _ _ => ⟨rfl, e17, (by decide : 0 + 0 ≤ _), (by decide : 0 + 0 ≤ _)⟩)
        dsimp only [Pt.U, Pt.locs, Pt.cells, Pt.slots] at X18 l18 y18 z18 st18 hQ18
        subst l18 y18 z18
        obtain ⟨rfl, rfl, e18⟩ := hQ18
        have N18 := Fr.app N0 (Fr.nil n0)
        refine go (B := T18.setTop (mkF m 47 #[.val (.int p0), .val (.int (p0 &&& (3 : Int32))), .val (.ref w_FOLLOWER), .unset, .unset] [(.int (f1 w_FOLLOWER w_STANDALONE w_LEADER))])) (fun _ k => st18.trans k) ?_
        refine go (B := T18.setTop (mkF m 48 #[.val (.int p0), .val (.int (p0 &&& (3 : Int32))), .val (.ref w_FOLLOWER), .val (.int (f1 w_FOLLOWER w_STANDALONE w_LEADER)), .unset] [])) (fun _ k => XS.istoreN X18.here hx rfl (hb hby at_47) rfl (l' := #[.val (.int p0), .val (.int (p0 &&& (3 : Int32))), .val (.ref w_FOLLOWER), .val (.int (f1 w_FOLLOWER w_STANDALONE w_LEADER)), .unset]) rfl k) ?_
        refine go (B := T18.setTop (mkF m 49 #[.val (.int p0), .val (.int (p0 &&& (3 : Int32))), .val (.ref w_FOLLOWER), .val (.int (f1 w_FOLLOWER w_STANDALONE w_LEADER)), .unset] [(.int (p0 &&& (3 : Int32)))])) (fun _ k => XS.iloadN X18.here hx rfl (hb hby at_48) rfl k) ?_
        refine go (B := T18.setTop (mkF m 52 #[.val (.int p0), .val (.int (p0 &&& (3 : Int32))), .val (.ref w_FOLLOWER), .val (.int (f1 w_FOLLOWER w_STANDALONE w_LEADER)), .unset] [])) (fun _ k => XS.ifNo X18.here hx rfl (hb hby at_49) rfl ((if0 _ _).trans (feq hc1).1) k) ?_
        refine go (B := T18.setTop (mkF m 53 #[.val (.int p0), .val (.int (p0 &&& (3 : Int32))), .val (.ref w_FOLLOWER), .val (.int (f1 w_FOLLOWER w_STANDALONE w_LEADER)), .unset] [(.int (p0 &&& (3 : Int32)))])) (fun _ k => XS.iloadN X18.here hx rfl (hb hby at_52) rfl k) ?_
        refine go (B := T18.setTop (mkF m 54 #[.val (.int p0), .val (.int (p0 &&& (3 : Int32))), .val (.ref w_FOLLOWER), .val (.int (f1 w_FOLLOWER w_STANDALONE w_LEADER)), .unset] [(.int (3 : Int32)), (.int (p0 &&& (3 : Int32)))])) (fun _ k => XS.iconst X18.here hx rfl (hb hby at_53) k) ?_
        refine go (B := T18.setTop (mkF m 61 #[.val (.int p0), .val (.int (p0 &&& (3 : Int32))), .val (.ref w_FOLLOWER), .val (.int (f1 w_FOLLOWER w_STANDALONE w_LEADER)), .unset] [])) (fun _ k => XS.icmpYes X18.here hx rfl (pc0 := 54) (pc' := 61) rfl (hb hby at_54) rfl (feq (show ¬ ((p0 &&& (3 : Int32)) = (3 : Int32)) from by revert hc1 hc10 hc16; simp only [Int32.lt_iff_toInt_lt, ← Int32.toInt_inj, Int32.reduceToInt]; omega)).2 (by decide) (by decide) k) ?_
        refine go (B := T18.setTop (mkF m 62 #[.val (.int p0), .val (.int (p0 &&& (3 : Int32))), .val (.ref w_FOLLOWER), .val (.int (f1 w_FOLLOWER w_STANDALONE w_LEADER)), .unset] [(.int (0 : Int32))])) (fun _ k => XS.iconst X18.here hx rfl (hb hby at_61) k) ?_
        refine go (B := T18.setTop (mkF m 64 #[.val (.int p0), .val (.int (p0 &&& (3 : Int32))), .val (.ref w_FOLLOWER), .val (.int (f1 w_FOLLOWER w_STANDALONE w_LEADER)), .val (.int (0 : Int32))] [])) (fun _ k => XS.istore X18.here hx rfl (hb hby at_62) rfl (l' := #[.val (.int p0), .val (.int (p0 &&& (3 : Int32))), .val (.ref w_FOLLOWER), .val (.int (f1 w_FOLLOWER w_STANDALONE w_LEADER)), .val (.int (0 : Int32))]) rfl k) ?_
        refine go (B := T18.setTop (mkF m 65 #[.val (.int p0), .val (.int (p0 &&& (3 : Int32))), .val (.ref w_FOLLOWER), .val (.int (f1 w_FOLLOWER w_STANDALONE w_LEADER)), .val (.int (0 : Int32))] [(.int (f1 w_FOLLOWER w_STANDALONE w_LEADER))])) (fun _ k => XS.iloadN X18.here hx rfl (hb hby at_64) rfl k) ?_
        refine go (B := T18.setTop (mkF m 67 #[.val (.int p0), .val (.int (p0 &&& (3 : Int32))), .val (.ref w_FOLLOWER), .val (.int (f1 w_FOLLOWER w_STANDALONE w_LEADER)), .val (.int (0 : Int32))] [(.int (0 : Int32)), (.int (f1 w_FOLLOWER w_STANDALONE w_LEADER))])) (fun _ k => XS.iload X18.here hx rfl (hb hby at_65) rfl k) ?_
        by_cases hc19 : (f1 w_FOLLOWER w_STANDALONE w_LEADER) = (0 : Int32)
        · refine go (B := T18.setTop (mkF m 70 #[.val (.int p0), .val (.int (p0 &&& (3 : Int32))), .val (.ref w_FOLLOWER), .val (.int (f1 w_FOLLOWER w_STANDALONE w_LEADER)), .val (.int (0 : Int32))] [])) (fun _ k => XS.icmpNo X18.here hx rfl (hb hby at_67) rfl (teq hc19).2 k) ?_
          refine go (B := T18.setTop (mkF m 71 #[.val (.int p0), .val (.int (p0 &&& (3 : Int32))), .val (.ref w_FOLLOWER), .val (.int (f1 w_FOLLOWER w_STANDALONE w_LEADER)), .val (.int (0 : Int32))] [(.int (f1 w_FOLLOWER w_STANDALONE w_LEADER))])) (fun _ k => XS.iloadN X18.here hx rfl (hb hby at_70) rfl k) ?_
          refine go (B := T18.setTop (mkF m 81 #[.val (.int p0), .val (.int (p0 &&& (3 : Int32))), .val (.ref w_FOLLOWER), .val (.int (f1 w_FOLLOWER w_STANDALONE w_LEADER)), .val (.int (0 : Int32))] [])) (fun _ k => XS.ifYes X18.here hx rfl (pc0 := 71) (pc' := 81) rfl (hb hby at_71) rfl ((if0 _ _).trans (teq hc19).1) (by decide) (by decide) k) ?_
          refine go (B := T18.setTop (mkF m 82 #[.val (.int p0), .val (.int (p0 &&& (3 : Int32))), .val (.ref w_FOLLOWER), .val (.int (f1 w_FOLLOWER w_STANDALONE w_LEADER)), .val (.int (0 : Int32))] [(.int (1 : Int32))])) (fun _ k => XS.iconst X18.here hx rfl (hb hby at_81) k) ?_
          refine go (B := T18.setTop (mkF m 86 #[.val (.int p0), .val (.int (p0 &&& (3 : Int32))), .val (.ref w_FOLLOWER), .val (.int (f1 w_FOLLOWER w_STANDALONE w_LEADER)), .val (.int (0 : Int32))] [(.int (1 : Int32))])) (fun _ k => XS.goto X18.here hx rfl (pc0 := 82) (pc' := 86) rfl (hb hby at_82) (by decide) (by decide) k) ?_
          have r20 : (f0 p0 w_STANDALONE w_LOOKING w_FOLLOWER w_LEADER) = (1 : Int32) := by unfold f0; rw [if_neg hc1, if_neg hc10, if_pos hc16, if_pos hc19]
          exact end_nar X18 hx Bd.notSynchronized (t := .boolean) Bd.returns (by simp) (hb hby at_86) hF e18 (by decide) (by decide) ⟨(congrArg (fun z => some (Value.int z)) (r20.symm.trans (own_law p0 w_STANDALONE w_LOOKING w_FOLLOWER w_LEADER ne_w_STANDALONE_w_LOOKING ne_w_STANDALONE_w_FOLLOWER ne_w_STANDALONE_w_LEADER ne_w_LOOKING_w_FOLLOWER ne_w_LOOKING_w_LEADER ne_w_FOLLOWER_w_LEADER))), N18⟩
        · refine go (B := T18.setTop (mkF m 85 #[.val (.int p0), .val (.int (p0 &&& (3 : Int32))), .val (.ref w_FOLLOWER), .val (.int (f1 w_FOLLOWER w_STANDALONE w_LEADER)), .val (.int (0 : Int32))] [])) (fun _ k => XS.icmpYes X18.here hx rfl (pc0 := 67) (pc' := 85) rfl (hb hby at_67) rfl (feq hc19).2 (by decide) (by decide) k) ?_
          refine go (B := T18.setTop (mkF m 86 #[.val (.int p0), .val (.int (p0 &&& (3 : Int32))), .val (.ref w_FOLLOWER), .val (.int (f1 w_FOLLOWER w_STANDALONE w_LEADER)), .val (.int (0 : Int32))] [(.int (0 : Int32))])) (fun _ k => XS.iconst X18.here hx rfl (hb hby at_85) k) ?_
          have r21 : (f0 p0 w_STANDALONE w_LOOKING w_FOLLOWER w_LEADER) = (0 : Int32) := by unfold f0; rw [if_neg hc1, if_neg hc10, if_pos hc16, if_neg hc19]
          exact end_nar X18 hx Bd.notSynchronized (t := .boolean) Bd.returns (by simp) (hb hby at_86) hF e18 (by decide) (by decide) ⟨(congrArg (fun z => some (Value.int z)) (r21.symm.trans (own_law p0 w_STANDALONE w_LOOKING w_FOLLOWER w_LEADER ne_w_STANDALONE_w_LOOKING ne_w_STANDALONE_w_FOLLOWER ne_w_STANDALONE_w_LEADER ne_w_LOOKING_w_FOLLOWER ne_w_LOOKING_w_LEADER ne_w_FOLLOWER_w_LEADER))), N18⟩
      · refine go (B := s₁.setTop (mkF m 39 #[.val (.int p0), .val (.int (p0 &&& (3 : Int32))), .unset, .unset, .unset] [])) (fun _ k => XS.icmpYes X0.here hx rfl (pc0 := 29) (pc' := 39) rfl (hb hby at_29) rfl (feq hc16).2 (by decide) (by decide) k) ?_
        obtain ⟨T22, X22, e22, st22⟩ := getS2 X0 hx hZ hown (host := "") (Or.inl (hw _ (List.mem_of_getElem? (i := 16) rfl))) Via.refl e0 S_LEADER (g := (mkF m 39 #[.val (.int p0), .val (.int (p0 &&& (3 : Int32))), .unset, .unset, .unset] [])) rfl (hb hby at_39)
        refine go (B := T22.setTop (mkF m 42 #[.val (.int p0), .val (.int (p0 &&& (3 : Int32))), .unset, .unset, .unset] [(.ref w_LEADER)])) st22 ?_
        refine go (B := T22.setTop (mkF m 43 #[.val (.int p0), .val (.int (p0 &&& (3 : Int32))), .val (.ref w_LEADER), .unset, .unset] [])) (fun _ k => XS.astoreN X22.here hx rfl (hb hby at_42) rfl rfl (l' := #[.val (.int p0), .val (.int (p0 &&& (3 : Int32))), .val (.ref w_LEADER), .unset, .unset]) rfl k) ?_
        refine go (B := T22.setTop (mkF m 44 #[.val (.int p0), .val (.int (p0 &&& (3 : Int32))), .val (.ref w_LEADER), .unset, .unset] [(.ref w_LEADER)])) (fun _ k => XS.aloadN X22.here hx rfl (hb hby at_43) rfl rfl k) ?_
        obtain ⟨cq23, kq23, q23a, q23b, q23c⟩ := isOf hZ e22 E_w_LEADER
        obtain ⟨_, _, ⟨T23, L23, k23, n23⟩, -, X23, ⟨Lc23, hQ23, l23, y23, z23⟩, st23⟩ := X22.virtualBack hx (y := (⟨"com/example/quorumtree/quorumtree/server/Mode", "ordersWrites", "()Z"⟩ : MethodName)) (z := (⟨"com/example/quorumtree/quorumtree/server/Mode", "ordersWrites", "()Z"⟩ : MethodName)) hown (mvT hZ (hw _ (List.mem_of_getElem? (i := 3) rfl))) (mvT hZ (hw _ (List.mem_of_getElem? (i := 4) rfl))) (notFace_of_selects (args := #[]) (mvT hZ (hw _ (List.mem_of_getElem? (i := 6) rfl)))) (mvT hZ (hw _ (List.mem_of_getElem? (i := 6) rfl))) (mvT hZ (hw _ (List.mem_of_getElem? (i := 5) rfl))) (by decide) (backOf (W := 0) (rm1 l Z aw hw [] w_LEADER w_STANDALONE w_LEADER h0 n0 Z0 S_STANDALONE S_LEADER) hZ (hw _ (List.mem_of_getElem? (i := 7) rfl)) (hw _ (List.mem_of_getElem? (i := 1) rfl)) (by decide) (by decide)) q23a q23c (g := (mkF m 44 #[.val (.int p0), .val (.int (p0 &&& (3 : Int32))), .val (.ref w_LEADER), .unset, .unset] [(.ref w_LEADER)])) rfl (by rw [hml]; rfl) (Steps.refl _) (argsL := []) (rest := []) (lenOf pd_0 rfl) rfl (by show 2 * 0 + _ ≤ _; exact Nat.le_of_eq rfl) (hb hby at_44) (fun _ _ => ⟨rfl, e22, (by decide : 0 + 0 ≤ _), (by decide : 0 + 0 ≤ _)⟩)
        dsimp only [Pt.U, Pt.locs, Pt.cells, Pt.slots] at X23 l23 y23 z23 st23 hQ23
        subst l23 y23 z23
        obtain ⟨rfl, rfl, e23⟩ := hQ23
        have N23 := Fr.app N0 (Fr.nil n0)
        refine go (B := T23.setTop (mkF m 47 #[.val (.int p0), .val (.int (p0 &&& (3 : Int32))), .val (.ref w_LEADER), .unset, .unset] [(.int (f1 w_LEADER w_STANDALONE w_LEADER))])) (fun _ k => st23.trans k) ?_
        refine go (B := T23.setTop (mkF m 48 #[.val (.int p0), .val (.int (p0 &&& (3 : Int32))), .val (.ref w_LEADER), .val (.int (f1 w_LEADER w_STANDALONE w_LEADER)), .unset] [])) (fun _ k => XS.istoreN X23.here hx rfl (hb hby at_47) rfl (l' := #[.val (.int p0), .val (.int (p0 &&& (3 : Int32))), .val (.ref w_LEADER), .val (.int (f1 w_LEADER w_STANDALONE w_LEADER)), .unset]) rfl k) ?_
        refine go (B := T23.setTop (mkF m 49 #[.val (.int p0), .val (.int (p0 &&& (3 : Int32))), .val (.ref w_LEADER), .val (.int (f1 w_LEADER w_STANDALONE w_LEADER)), .unset] [(.int (p0 &&& (3 : Int32)))])) (fun _ k => XS.iloadN X23.here hx rfl (hb hby at_48) rfl k) ?_
        refine go (B := T23.setTop (mkF m 52 #[.val (.int p0), .val (.int (p0 &&& (3 : Int32))), .val (.ref w_LEADER), .val (.int (f1 w_LEADER w_STANDALONE w_LEADER)), .unset] [])) (fun _ k => XS.ifNo X23.here hx rfl (hb hby at_49) rfl ((if0 _ _).trans (feq hc1).1) k) ?_
        refine go (B := T23.setTop (mkF m 53 #[.val (.int p0), .val (.int (p0 &&& (3 : Int32))), .val (.ref w_LEADER), .val (.int (f1 w_LEADER w_STANDALONE w_LEADER)), .unset] [(.int (p0 &&& (3 : Int32)))])) (fun _ k => XS.iloadN X23.here hx rfl (hb hby at_52) rfl k) ?_
        refine go (B := T23.setTop (mkF m 54 #[.val (.int p0), .val (.int (p0 &&& (3 : Int32))), .val (.ref w_LEADER), .val (.int (f1 w_LEADER w_STANDALONE w_LEADER)), .unset] [(.int (3 : Int32)), (.int (p0 &&& (3 : Int32)))])) (fun _ k => XS.iconst X23.here hx rfl (hb hby at_53) k) ?_
        suffices Kj24 : ∀ (T24 : State) (L24 : List Loc), Stand p l e room_1 s m #[(.int p0)] below meth c T24 L24 0 0 → Fr n0 L24 → T24.heap = h0 → Go p.tables e below F (T24.setTop (mkF m 62 #[.val (.int p0), .val (.int (p0 &&& (3 : Int32))), .val (.ref w_LEADER), .val (.int (f1 w_LEADER w_STANDALONE w_LEADER)), .unset] [(.int (f0_z0 p0))])) by
          by_cases hc25 : (p0 &&& (3 : Int32)) = (3 : Int32)
          · refine go (B := T23.setTop (mkF m 57 #[.val (.int p0), .val (.int (p0 &&& (3 : Int32))), .val (.ref w_LEADER), .val (.int (f1 w_LEADER w_STANDALONE w_LEADER)), .unset] [])) (fun _ k => XS.icmpNo X23.here hx rfl (hb hby at_54) rfl (teq hc25).2 k) ?_
            refine go (B := T23.setTop (mkF m 58 #[.val (.int p0), .val (.int (p0 &&& (3 : Int32))), .val (.ref w_LEADER), .val (.int (f1 w_LEADER w_STANDALONE w_LEADER)), .unset] [(.int (1 : Int32))])) (fun _ k => XS.iconst X23.here hx rfl (hb hby at_57) k) ?_
            refine go (B := T23.setTop (mkF m 62 #[.val (.int p0), .val (.int (p0 &&& (3 : Int32))), .val (.ref w_LEADER), .val (.int (f1 w_LEADER w_STANDALONE w_LEADER)), .unset] [(.int (1 : Int32))])) (fun _ k => XS.goto X23.here hx rfl (pc0 := 58) (pc' := 62) rfl (hb hby at_58) (by decide) (by decide) k) ?_
            rw [show (f0_z0 p0) = (1 : Int32) from by unfold f0_z0; rw [if_pos hc25]] at Kj24
            exact Kj24 _ _ X23 N23 e23
          · refine go (B := T23.setTop (mkF m 61 #[.val (.int p0), .val (.int (p0 &&& (3 : Int32))), .val (.ref w_LEADER), .val (.int (f1 w_LEADER w_STANDALONE w_LEADER)), .unset] [])) (fun _ k => XS.icmpYes X23.here hx rfl (pc0 := 54) (pc' := 61) rfl (hb hby at_54) rfl (feq hc25).2 (by decide) (by decide) k) ?_
            refine go (B := T23.setTop (mkF m 62 #[.val (.int p0), .val (.int (p0 &&& (3 : Int32))), .val (.ref w_LEADER), .val (.int (f1 w_LEADER w_STANDALONE w_LEADER)), .unset] [(.int (0 : Int32))])) (fun _ k => XS.iconst X23.here hx rfl (hb hby at_61) k) ?_
            rw [show (f0_z0 p0) = (0 : Int32) from by unfold f0_z0; rw [if_neg hc25]] at Kj24
            exact Kj24 _ _ X23 N23 e23
        intro T24 L24 X24 N24 e24
        refine go (B := T24.setTop (mkF m 64 #[.val (.int p0), .val (.int (p0 &&& (3 : Int32))), .val (.ref w_LEADER), .val (.int (f1 w_LEADER w_STANDALONE w_LEADER)), .val (.int (f0_z0 p0))] [])) (fun _ k => XS.istore X24.here hx rfl (hb hby at_62) rfl (l' := #[.val (.int p0), .val (.int (p0 &&& (3 : Int32))), .val (.ref w_LEADER), .val (.int (f1 w_LEADER w_STANDALONE w_LEADER)), .val (.int (f0_z0 p0))]) rfl k) ?_
        refine go (B := T24.setTop (mkF m 65 #[.val (.int p0), .val (.int (p0 &&& (3 : Int32))), .val (.ref w_LEADER), .val (.int (f1 w_LEADER w_STANDALONE w_LEADER)), .val (.int (f0_z0 p0))] [(.int (f1 w_LEADER w_STANDALONE w_LEADER))])) (fun _ k => XS.iloadN X24.here hx rfl (hb hby at_64) rfl k) ?_
        refine go (B := T24.setTop (mkF m 67 #[.val (.int p0), .val (.int (p0 &&& (3 : Int32))), .val (.ref w_LEADER), .val (.int (f1 w_LEADER w_STANDALONE w_LEADER)), .val (.int (f0_z0 p0))] [(.int (f0_z0 p0)), (.int (f1 w_LEADER w_STANDALONE w_LEADER))])) (fun _ k => XS.iload X24.here hx rfl (hb hby at_65) rfl k) ?_
        by_cases hc26 : (f1 w_LEADER w_STANDALONE w_LEADER) = (f0_z0 p0)
        · refine go (B := T24.setTop (mkF m 70 #[.val (.int p0), .val (.int (p0 &&& (3 : Int32))), .val (.ref w_LEADER), .val (.int (f1 w_LEADER w_STANDALONE w_LEADER)), .val (.int (f0_z0 p0))] [])) (fun _ k => XS.icmpNo X24.here hx rfl (hb hby at_67) rfl (teq hc26).2 k) ?_
          refine go (B := T24.setTop (mkF m 71 #[.val (.int p0), .val (.int (p0 &&& (3 : Int32))), .val (.ref w_LEADER), .val (.int (f1 w_LEADER w_STANDALONE w_LEADER)), .val (.int (f0_z0 p0))] [(.int (f1 w_LEADER w_STANDALONE w_LEADER))])) (fun _ k => XS.iloadN X24.here hx rfl (hb hby at_70) rfl k) ?_
          by_cases hc27 : (f1 w_LEADER w_STANDALONE w_LEADER) = (0 : Int32)
          · refine go (B := T24.setTop (mkF m 81 #[.val (.int p0), .val (.int (p0 &&& (3 : Int32))), .val (.ref w_LEADER), .val (.int (f1 w_LEADER w_STANDALONE w_LEADER)), .val (.int (f0_z0 p0))] [])) (fun _ k => XS.ifYes X24.here hx rfl (pc0 := 71) (pc' := 81) rfl (hb hby at_71) rfl ((if0 _ _).trans (teq hc27).1) (by decide) (by decide) k) ?_
            refine go (B := T24.setTop (mkF m 82 #[.val (.int p0), .val (.int (p0 &&& (3 : Int32))), .val (.ref w_LEADER), .val (.int (f1 w_LEADER w_STANDALONE w_LEADER)), .val (.int (f0_z0 p0))] [(.int (1 : Int32))])) (fun _ k => XS.iconst X24.here hx rfl (hb hby at_81) k) ?_
            refine go (B := T24.setTop (mkF m 86 #[.val (.int p0), .val (.int (p0 &&& (3 : Int32))), .val (.ref w_LEADER), .val (.int (f1 w_LEADER w_STANDALONE w_LEADER)), .val (.int (f0_z0 p0))] [(.int (1 : Int32))])) (fun _ k => XS.goto X24.here hx rfl (pc0 := 82) (pc' := 86) rfl (hb hby at_82) (by decide) (by decide) k) ?_
            have r28 : (f0 p0 w_STANDALONE w_LOOKING w_FOLLOWER w_LEADER) = (1 : Int32) := by unfold f0; rw [if_neg hc1, if_neg hc10, if_neg hc16, if_pos hc26, if_pos hc27]
            exact end_nar X24 hx Bd.notSynchronized (t := .boolean) Bd.returns (by simp) (hb hby at_86) hF e24 (by decide) (by decide) ⟨(congrArg (fun z => some (Value.int z)) (r28.symm.trans (own_law p0 w_STANDALONE w_LOOKING w_FOLLOWER w_LEADER ne_w_STANDALONE_w_LOOKING ne_w_STANDALONE_w_FOLLOWER ne_w_STANDALONE_w_LEADER ne_w_LOOKING_w_FOLLOWER ne_w_LOOKING_w_LEADER ne_w_FOLLOWER_w_LEADER))), N24⟩
          · refine go (B := T24.setTop (mkF m 74 #[.val (.int p0), .val (.int (p0 &&& (3 : Int32))), .val (.ref w_LEADER), .val (.int (f1 w_LEADER w_STANDALONE w_LEADER)), .val (.int (f0_z0 p0))] [])) (fun _ k => XS.ifNo X24.here hx rfl (hb hby at_71) rfl ((if0 _ _).trans (feq hc27).1) k) ?_
            refine go (B := T24.setTop (mkF m 75 #[.val (.int p0), .val (.int (p0 &&& (3 : Int32))), .val (.ref w_LEADER), .val (.int (f1 w_LEADER w_STANDALONE w_LEADER)), .val (.int (f0_z0 p0))] [(.ref w_LEADER)])) (fun _ k => XS.aloadN X24.here hx rfl (hb hby at_74) rfl rfl k) ?_
            obtain ⟨cq29, kq29, q29a, q29b, q29c⟩ := isOf hZ e24 E_w_LEADER
            obtain ⟨_, _, ⟨T29, L29, k29, n29⟩, -, X29, ⟨Lc29, hQ29, l29, y29, z29⟩, st29⟩ := X24.virtualBack hx (y := (⟨"com/example/quorumtree/quorumtree/server/Mode", "servesClients", "()Z"⟩ : MethodName)) (z := (⟨"com/example/quorumtree/quorumtree/server/Mode", "servesClients", "()Z"⟩ : MethodName)) hown (mvT hZ (hw _ (List.mem_of_getElem? (i := 9) rfl))) (mvT hZ (hw _ (List.mem_of_getElem? (i := 10) rfl))) (notFace_of_selects (args := #[]) (mvT hZ (hw _ (List.mem_of_getElem? (i := 12) rfl)))) (mvT hZ (hw _ (List.mem_of_getElem? (i := 12) rfl))) (mvT hZ (hw _ (List.mem_of_getElem? (i := 11) rfl))) (by decide) (backOf (W := 0) (rm2 l Z aw hw [] w_LEADER w_LOOKING h0 n0 Z0 S_LOOKING) hZ (hw _ (List.mem_of_getElem? (i := 13) rfl)) (hw _ (List.mem_of_getElem? (i := 1) rfl)) (by decide) (by decide)) q29a q29c (g := (mkF m 75 #[.val (.int p0), .val (.int (p0 &&& (3 : Int32))), .val (.ref w_LEADER), .val (.int (f1 w_LEADER w_STANDALONE w_LEADER)), .val (.int (f0_z0 p0))] [(.ref w_LEADER)])) rfl (by rw [hml]; rfl) (Steps.refl _) (argsL := []) (rest := []) (lenOf pd_0 rfl) rfl (by show 2 * 0 + _ ≤ _; exact Nat.le_of_eq rfl) (hb hby at_75) (fun _ _ => ⟨rfl, e24, (by decide : 0 + 0 ≤ _), (by decide : 0 + 0 ≤ _)⟩)
            dsimp only [Pt.U, Pt.locs, Pt.cells, Pt.slots] at X29 l29 y29 z29 st29 hQ29
            subst l29 y29 z29
            obtain ⟨rfl, rfl, e29⟩ := hQ29
            have N29 := Fr.app N24 (Fr.nil n0)
            refine go (B := T29.setTop (mkF m 78 #[.val (.int p0), .val (.int (p0 &&& (3 : Int32))), .val (.ref w_LEADER), .val (.int (f1 w_LEADER w_STANDALONE w_LEADER)), .val (.int (f0_z0 p0))] [(.int (f2 w_LEADER w_LOOKING))])) (fun _ k => st29.trans k) ?_
            by_cases hc30 : (f2 w_LEADER w_LOOKING) = (0 : Int32)
            · refine go (B := T29.setTop (mkF m 85 #[.val (.int p0), .val (.int (p0 &&& (3 : Int32))), .val (.ref w_LEADER), .val (.int (f1 w_LEADER w_STANDALONE w_LEADER)), .val (.int (f0_z0 p0))] [])) (fun _ k => XS.ifYes X29.here hx rfl (pc0 := 78) (pc' := 85) rfl (hb hby at_78) rfl ((if0 _ _).trans (teq hc30).1) (by decide) (by decide) k) ?_
              refine go (B := T29.setTop (mkF m 86 #[.val (.int p0), .val (.int (p0 &&& (3 : Int32))), .val (.ref w_LEADER), .val (.int (f1 w_LEADER w_STANDALONE w_LEADER)), .val (.int (f0_z0 p0))] [(.int (0 : Int32))])) (fun _ k => XS.iconst X29.here hx rfl (hb hby at_85) k) ?_
              have r31 : (f0 p0 w_STANDALONE w_LOOKING w_FOLLOWER w_LEADER) = (0 : Int32) := by unfold f0; rw [if_neg hc1, if_neg hc10, if_neg hc16, if_pos hc26, if_neg hc27, if_pos hc30]
              exact end_nar X29 hx Bd.notSynchronized (t := .boolean) Bd.returns (by simp) (hb hby at_86) hF e29 (by decide) (by decide) ⟨(congrArg (fun z => some (Value.int z)) (r31.symm.trans (own_law p0 w_STANDALONE w_LOOKING w_FOLLOWER w_LEADER ne_w_STANDALONE_w_LOOKING ne_w_STANDALONE_w_FOLLOWER ne_w_STANDALONE_w_LEADER ne_w_LOOKING_w_FOLLOWER ne_w_LOOKING_w_LEADER ne_w_FOLLOWER_w_LEADER))), N29⟩
            · refine go (B := T29.setTop (mkF m 81 #[.val (.int p0), .val (.int (p0 &&& (3 : Int32))), .val (.ref w_LEADER), .val (.int (f1 w_LEADER w_STANDALONE w_LEADER)), .val (.int (f0_z0 p0))] [])) (fun _ k => XS.ifNo X29.here hx rfl (hb hby at_78) rfl ((if0 _ _).trans (feq hc30).1) k) ?_
              refine go (B := T29.setTop (mkF m 82 #[.val (.int p0), .val (.int (p0 &&& (3 : Int32))), .val (.ref w_LEADER), .val (.int (f1 w_LEADER w_STANDALONE w_LEADER)), .val (.int (f0_z0 p0))] [(.int (1 : Int32))])) (fun _ k => XS.iconst X29.here hx rfl (hb hby at_81) k) ?_
              refine go (B := T29.setTop (mkF m 86 #[.val (.int p0), .val (.int (p0 &&& (3 : Int32))), .val (.ref w_LEADER), .val (.int (f1 w_LEADER w_STANDALONE w_LEADER)), .val (.int (f0_z0 p0))] [(.int (1 : Int32))])) (fun _ k => XS.goto X29.here hx rfl (pc0 := 82) (pc' := 86) rfl (hb hby at_82) (by decide) (by decide) k) ?_
              have r32 : (f0 p0 w_STANDALONE w_LOOKING w_FOLLOWER w_LEADER) = (1 : Int32) := by unfold f0; rw [if_neg hc1, if_neg hc10, if_neg hc16, if_pos hc26, if_neg hc27, if_neg hc30]
              exact end_nar X29 hx Bd.notSynchronized (t := .boolean) Bd.returns (by simp) (hb hby at_86) hF e29 (by decide) (by decide) ⟨(congrArg (fun z => some (Value.int z)) (r32.symm.trans (own_law p0 w_STANDALONE w_LOOKING w_FOLLOWER w_LEADER ne_w_STANDALONE_w_LOOKING ne_w_STANDALONE_w_FOLLOWER ne_w_STANDALONE_w_LEADER ne_w_LOOKING_w_FOLLOWER ne_w_LOOKING_w_LEADER ne_w_FOLLOWER_w_LEADER))), N29⟩
        · refine go (B := T24.setTop (mkF m 85 #[.val (.int p0), .val (.int (p0 &&& (3 : Int32))), .val (.ref w_LEADER), .val (.int (f1 w_LEADER w_STANDALONE w_LEADER)), .val (.int (f0_z0 p0))] [])) (fun _ k => XS.icmpYes X24.here hx rfl (pc0 := 67) (pc' := 85) rfl (hb hby at_67) rfl (feq hc26).2 (by decide) (by decide) k) ?_
          refine go (B := T24.setTop (mkF m 86 #[.val (.int p0), .val (.int (p0 &&& (3 : Int32))), .val (.ref w_LEADER), .val (.int (f1 w_LEADER w_STANDALONE w_LEADER)), .val (.int (f0_z0 p0))] [(.int (0 : Int32))])) (fun _ k => XS.iconst X24.here hx rfl (hb hby at_85) k) ?_
          have r33 : (f0 p0 w_STANDALONE w_LOOKING w_FOLLOWER w_LEADER) = (0 : Int32) := by unfold f0; rw [if_neg hc1, if_neg hc10, if_neg hc16, if_neg hc26]
          exact end_nar X24 hx Bd.notSynchronized (t := .boolean) Bd.returns (by simp) (hb hby at_86) hF e24 (by decide) (by decide) ⟨(congrArg (fun z => some (Value.int z)) (r33.symm.trans (own_law p0 w_STANDALONE w_LOOKING w_FOLLOWER w_LEADER ne_w_STANDALONE_w_LOOKING ne_w_STANDALONE_w_FOLLOWER ne_w_STANDALONE_w_LEADER ne_w_LOOKING_w_FOLLOWER ne_w_LOOKING_w_LEADER ne_w_FOLLOWER_w_LEADER))), N24⟩
set_option maxRecDepth 65536 in
set_option maxHeartbeats 40000000 in
theorem comes_1 {Post : Tables → Env → Array Value → State → Outcome → State → Prop} (hpost : ∀ tb e args s v u, (limb_1_1.after args s (.returned v) u = true ∧ limb_1_2.after args s (.returned v) u = true ∧ True) → FrameEnd s (.returned v) u (Jvm.fieldLocs frame_1_writes args s ++ Jvm.arrayLocs frame_1_arrays args s ++ Jvm.staticLocs frame_1_statics s) 0 0 → Post tb e args s (.returned v) u) :
    ArmFor flags0 classFile x code maxLocals ret World_1 tables_1 room_1 Calls_1 rest_1 Pre_1 Post := by
  intro l hfl _ _ p e ha hc hk s m args below hf hA hF happ hP
  obtain ⟨hcalls, hrest, hpre⟩ := hP
  obtain ⟨-, -, -, hnamed, -, -, -, hat⟩ := (Spec.applies_iff hf).mp happ
  obtain ⟨hg, hn⟩ := and_e (Cond.before_iff.mp (show (Jvm.Cond.and given_1 narrow_1).before args s = true from hpre))
  obtain ⟨gg1, gg2⟩ := and_e hg
  obtain ⟨w0, rfl⟩ : ∃ w0 : Value, args = #[w0] := by
    have hs : args.size = 1 := by simpa [Cond.value, given_1] using gg1
    obtain ⟨L⟩ := args
    match L, hs with
    | [w0], _ => exact ⟨w0, rfl⟩
  have hw := fun d (hd : d ∈ tables_1) => atoms_spec (ws := Jvm.Cond.code x code maxLocals ret :: tables_1) hat d (List.mem_cons_of_mem _ hd)
  have hfit : Fit s := fun {y c} hc i hi => by
    obtain ⟨ha, rfl⟩ := Array.getElem?_eq_some_iff.mp hc
    have q := List.all_eq_true.mp ((Array.all_eq_true_iff_forall_mem.mp hF) _ (Array.getElem_mem ha)) i (List.mem_range.mpr hi)
    simpa [Array.getElem?_eq_getElem hi] using q
  obtain ⟨i0, ei0⟩ := is_v gg2
  obtain rfl : w0 = (.int i0) := Option.some.inj ei0
  obtain ⟨nn1, nn2⟩ := and_e hn
  obtain ⟨nn3, nn4⟩ := and_e nn2
  obtain ⟨nn5, nn6⟩ := and_e nn4
  obtain ⟨nn7, nn8⟩ := and_e nn6
  obtain ⟨nn9, nn10⟩ := and_e nn8
  obtain ⟨nn11, nn12⟩ := and_e nn10
  obtain ⟨nn13, nn14⟩ := and_e nn12
  obtain ⟨w_STANDALONE, evw_STANDALONE⟩ := exa_v nn1
  have E_w_STANDALONE := Exa.start evw_STANDALONE nn1
  have S_STANDALONE : Sta s s.heap "com/example/quorumtree/quorumtree/server/Mode" "STANDALONE" "Lcom/example/quorumtree/quorumtree/server/Mode;" (.ref w_STANDALONE) := Sta.start evw_STANDALONE (Or.inr ⟨(hw _ (List.mem_of_getElem? (i := 1) rfl)), (hw _ (List.mem_of_getElem? (i := 2) rfl))⟩)
  have O_w_STANDALONE := own_fld evw_STANDALONE nn5
  obtain ⟨w_LOOKING, evw_LOOKING⟩ := exa_v nn3
  have E_w_LOOKING := Exa.start evw_LOOKING nn3
  have S_LOOKING : Sta s s.heap "com/example/quorumtree/quorumtree/server/Mode" "LOOKING" "Lcom/example/quorumtree/quorumtree/server/Mode;" (.ref w_LOOKING) := Sta.start evw_LOOKING (Or.inr ⟨(hw _ (List.mem_of_getElem? (i := 1) rfl)), (hw _ (List.mem_of_getElem? (i := 15) rfl))⟩)
  have O_w_LOOKING := own_fld evw_LOOKING nn7
  obtain ⟨w_FOLLOWER, evw_FOLLOWER⟩ := exa_v nn13
  have E_w_FOLLOWER := Exa.start evw_FOLLOWER nn13
  have S_FOLLOWER : Sta s s.heap "com/example/quorumtree/quorumtree/server/Mode" "FOLLOWER" "Lcom/example/quorumtree/quorumtree/server/Mode;" (.ref w_FOLLOWER) := Sta.start evw_FOLLOWER (Or.inr ⟨(hw _ (List.mem_of_getElem? (i := 1) rfl)), (hw _ (List.mem_of_getElem? (i := 20) rfl))⟩)
  have O_w_FOLLOWER := own_fld evw_FOLLOWER nn14
  obtain ⟨w_LEADER, evw_LEADER⟩ := exa_v nn9
  have E_w_LEADER := Exa.start evw_LEADER nn9
  have S_LEADER : Sta s s.heap "com/example/quorumtree/quorumtree/server/Mode" "LEADER" "Lcom/example/quorumtree/quorumtree/server/Mode;" (.ref w_LEADER) := Sta.start evw_LEADER (Or.inr ⟨(hw _ (List.mem_of_getElem? (i := 1) rfl)), (hw _ (List.mem_of_getElem? (i := 17) rfl))⟩)
  have O_w_LEADER := own_fld evw_LEADER nn11
  have ne_w_STANDALONE_w_LOOKING : w_STANDALONE ≠ w_LOOKING := Fld.ne O_w_STANDALONE O_w_LOOKING (by decide)
  have ne_w_STANDALONE_w_FOLLOWER : w_STANDALONE ≠ w_FOLLOWER := Fld.ne O_w_STANDALONE O_w_FOLLOWER (by decide)
  have ne_w_STANDALONE_w_LEADER : w_STANDALONE ≠ w_LEADER := Fld.ne O_w_STANDALONE O_w_LEADER (by decide)
  have ne_w_LOOKING_w_FOLLOWER : w_LOOKING ≠ w_FOLLOWER := Fld.ne O_w_LOOKING O_w_FOLLOWER (by decide)
  have ne_w_LOOKING_w_LEADER : w_LOOKING ≠ w_LEADER := Fld.ne O_w_LOOKING O_w_LEADER (by decide)
  have ne_w_FOLLOWER_w_LEADER : w_FOLLOWER ≠ w_LEADER := Fld.ne O_w_FOLLOWER O_w_LEADER (by decide)
  obtain ⟨n, o, h1, h2, h3, _, L, rfl, ⟨rfl, N⟩, hq⟩ := rm0 l s _ hw tables_1 i0 w_STANDALONE w_LOOKING w_FOLLOWER w_LEADER s.heap s.heap.size (Nat.le_refl _) S_STANDALONE E_w_STANDALONE S_LOOKING E_w_LOOKING S_FOLLOWER E_w_FOLLOWER S_LEADER E_w_LEADER ne_w_STANDALONE_w_LOOKING ne_w_STANDALONE_w_FOLLOWER ne_w_STANDALONE_w_LEADER ne_w_LOOKING_w_FOLLOWER ne_w_LOOKING_w_LEADER ne_w_FOLLOWER_w_LEADER p e ha hc hk s m _ below hf ((Spec.applies_iff_loose hf).mp happ).1 ⟨rfl, State.Warmed39.refl s, rfl⟩ trivial
  refine ⟨n, _, h1, h2, h3, hpost _ _ _ _ _ _ ⟨Cond.after_iff.mpr rfl, Cond.after_iff.mpr (eq_i res_at (Term.int_eval (1)) rfl), trivial⟩ ⟨hq.1, hq.2.1, (hq.2.2.sift fun y hy => Or.inr (N y hy)).mono (by decide) (by decide)⟩⟩
theorem main_1_1 : Claimed_1_1 := comes_1 fun _ _ _ _ _ _ h hF => ⟨h.1, hF⟩
theorem main_1_2 : Claimed_1_2 := comes_1 fun _ _ _ _ _ _ h hF => ⟨h.2.1, hF⟩
end Jvm.Pilot.@@N@@
namespace Jvm.Pilot.@@N@@
open Jvm Jvm.ClassFile Sem Op Lib Jvm.Free Jvm.Stand Jvm.Pilot.@@N@@.Jvm.D
/-! MADE BY PROGRAM (witnessworld.py) out of the Statement's table words and the real class files: 12 classes; the members and pool entries that the words name. The judged class is class 1, her method 1. -/
namespace start1
open Jvm.ClassFile
def u (s : String) : CpInfo := .utf8 (stringToUtf16 s)
/-- a pool by its gaps: so many unusable entries, then the entry; so many at the end -/
def gap : Nat → List CpInfo → List CpInfo
  | 0, r => r
  | n + 1, r => .unusable :: gap n r
def poolList (es : List (Nat × CpInfo)) (last : Nat) : List CpInfo := es.foldr (fun e r => gap e.1 (e.2 :: r)) (gap last [])
def pool (es : List (Nat × CpInfo)) (last : Nat) : Array CpInfo := ⟨poolList es last⟩
def fileOf (pool : Array CpInfo) (this : Nat) (attrs : Array Attribute := #[]) (ms : Array MethodInfo := #[]) (fl : Nat := 33) (sup : Nat := 0) (ifs : Array Nat := #[]) (fds : Array FieldInfo := #[]) : ClassFile where
  minorVersion := 0
  majorVersion := 65
  constantPool := pool
  accessFlags := fl
  thisClass := this
  superClass := sup
  interfaces := ifs
  fields := fds
  methods := ms
  attributes := attrs
def plain (name : String) (sup : Option ClassId) : Class where
  name := name
  kind := .ordinary
  loader := none
  accessFlags := 33
  super := sup
  interfaces := #[]
  cf := none
  fields := #[]
  methods := #[]
  instanceTypes := #[]
  staticTypes := #[]
  resolved := #[]
  callSites := []
  init := .initialized
  statics := none
  mirror := none

def pool0 : Array CpInfo := pool [(5, u "<init>"), (0, u "()V"), (1, .class_ 10), (1, u "java/lang/Object")] 113

def k0m0 : Method := { name := "<init>", desc := "()V", sig := { parameters := [], returnType := none }, accessFlags := 1, code := none }
/-- java/lang/Object -/
def k0 : Class := { plain "java/lang/Object" none with
  accessFlags := 33
  interfaces := #[]
  cf := some (fileOf pool0 8 #[] #[{ accessFlags := 1, nameIndex := 5, descriptorIndex := 6, attributes := #[] }] 33 0 #[] #[])
  fields := #[]
  methods := #[k0m0]
  instanceTypes := #[]
  staticTypes := #[]
  resolved := Array.replicate 124 none
  statics := none }

def pool1 : Array CpInfo := pool [(2, .class_ 4), (1, u "java/lang/Object"), (0, u "<init>"), (0, u "()V"), (0, .fieldref 8 9), (0, .class_ 10), (0, .nameAndType 11 12), (0, u "com/example/quorumtree/quorumtree/server/Mode"), (0, u "STANDALONE"), (0, u "Lcom/example/quorumtree/quorumtree/server/Mode;"), (0, .fieldref 8 14), (0, .nameAndType 15 12), (0, u "LOOKING"), (0, .fieldref 8 17), (0, .nameAndType 18 12), (0, u "FOLLOWER"), (0, .fieldref 8 20), (0, .nameAndType 21 12), (0, u "LEADER"), (0, .methodref 8 23), (0, .nameAndType 24 25), (0, u "ordersWrites"), (0, u "()Z"), (0, .methodref 8 27), (0, .nameAndType 28 25), (0, u "servesClients"), (0, .class_ 30), (0, u "com/example/quorumtree/quorumtree/server/ModeOrdersWritesPinLaw"), (2, u "law"), (0, u "(I)Z")] 3

def k1m0 : Method := { name := "<init>", desc := "()V", sig := { parameters := [], returnType := none }, accessFlags := 1, code := none }
def k1c1 : Code := { maxStack := 2, maxLocals := 5, code := code, exceptionTable := #[], attributes := #[] }
def k1m1 : Method := { name := "law", desc := "(I)Z", sig := { parameters := [.int], returnType := some .boolean }, accessFlags := 9, code := some k1c1 }
/-- com/example/quorumtree/quorumtree/server/ModeOrdersWritesPinLaw -/
def k1 : Class := { plain "com/example/quorumtree/quorumtree/server/ModeOrdersWritesPinLaw" (some 0) with
  accessFlags := 49
  interfaces := #[]
  cf := some (fileOf pool1 29 #[] #[{ accessFlags := 1, nameIndex := 5, descriptorIndex := 6, attributes := #[] }, { accessFlags := 9, nameIndex := 33, descriptorIndex := 34, attributes := #[] }] 49 2 #[] #[])
  fields := #[]
  methods := #[k1m0, k1m1]
  instanceTypes := #[]
  staticTypes := #[]
  resolved := Array.replicate 38 none
  statics := none }

def pool2 : Array CpInfo := pool [(1, .class_ 2), (0, u "java/lang/constant/Constable"), (0, .class_ 4), (0, u "java/lang/Object")] 6

/-- java/lang/constant/Constable -/
def k2 : Class := { plain "java/lang/constant/Constable" (some 0) with
  accessFlags := 1537
  interfaces := #[]
  cf := some (fileOf pool2 1 #[] #[] 1537 3 #[] #[])
  fields := #[]
  methods := #[]
  instanceTypes := #[]
  staticTypes := #[]
  resolved := Array.replicate 11 none
  statics := none }

def pool3 : Array CpInfo := pool [(1, .class_ 2), (0, u "java/lang/Comparable"), (0, .class_ 4), (0, u "java/lang/Object")] 7

/-- java/lang/Comparable -/
def k3 : Class := { plain "java/lang/Comparable" (some 0) with
  accessFlags := 1537
  interfaces := #[]
  cf := some (fileOf pool3 1 #[] #[] 1537 3 #[] #[])
  fields := #[]
  methods := #[]
  instanceTypes := #[]
  staticTypes := #[]
  resolved := Array.replicate 12 none
  statics := none }

def pool4 : Array CpInfo := pool [(1, .class_ 2), (0, u "java/io/Serializable"), (0, .class_ 4), (0, u "java/lang/Object")] 2

/-- java/io/Serializable -/
def k4 : Class := { plain "java/io/Serializable" (some 0) with
  accessFlags := 1537
  interfaces := #[]
  cf := some (fileOf pool4 1 #[] #[] 1537 3 #[] #[])
  fields := #[]
  methods := #[]
  instanceTypes := #[]
  staticTypes := #[]
  resolved := Array.replicate 7 none
  statics := none }

def pool5 : Array CpInfo := pool [(2, .class_ 4), (1, u "java/lang/Enum"), (0, u "name"), (0, u "Ljava/lang/String;"), (2, u "ordinal"), (0, u "I"), (1, .class_ 14), (1, u "java/lang/Object"), (4, u "hash"), (86, .class_ 108), (1, u "java/lang/Enum$EnumDesc"), (2, .class_ 112), (0, u "java/lang/constant/Constable"), (0, .class_ 114), (0, u "java/lang/Comparable"), (0, .class_ 116), (0, u "java/io/Serializable")] 87

/-- java/lang/Enum -/
def k5 : Class := { plain "java/lang/Enum" (some 0) with
  accessFlags := 1057
  interfaces := #[2, 3, 4]
  cf := some (fileOf pool5 2 #[.nestMembers #[106]] #[] 1057 12 #[111, 113, 115] #[{ accessFlags := 18, nameIndex := 5, descriptorIndex := 6, attributes := #[] }, { accessFlags := 18, nameIndex := 9, descriptorIndex := 10, attributes := #[] }, { accessFlags := 2, nameIndex := 19, descriptorIndex := 10, attributes := #[] }])
  fields := #[{ name := "name", type := (.object "java/lang/String"), accessFlags := 18, slot := 0, constantValue := 0 }, { name := "ordinal", type := .int, accessFlags := 18, slot := 1, constantValue := 0 }, { name := "hash", type := .int, accessFlags := 2, slot := 2, constantValue := 0 }]
  methods := #[]
  instanceTypes := #[(.object "java/lang/String"), .int, .int]
  staticTypes := #[]
  resolved := Array.replicate 204 none
  statics := none }

def pool6 : Array CpInfo := pool [(1, .class_ 2), (0, u "com/example/quorumtree/quorumtree/server/Mode"), (0, .fieldref 1 4), (0, .nameAndType 5 6), (0, u "STANDALONE"), (0, u "Lcom/example/quorumtree/quorumtree/server/Mode;"), (0, .fieldref 1 8), (0, .nameAndType 9 6), (0, u "LOOKING"), (2, u "FOLLOWER"), (0, .fieldref 1 14), (0, .nameAndType 15 6), (0, u "LEADER"), (2, u "$VALUES"), (0, u "[Lcom/example/quorumtree/quorumtree/server/Mode;"), (6, .class_ 28), (1, u "java/lang/Enum"), (8, u "word"), (0, u "Ljava/lang/String;"), (27, u "servesClients"), (0, u "()Z"), (1, u "ordersWrites")] 5

def k6c0 : Code := { maxStack := 2, maxLocals := 1, code := prog_111_method_5_code, exceptionTable := #[], attributes := #[] }
def k6m0 : Method := { name := "servesClients", desc := "()Z", sig := { parameters := [], returnType := some .boolean }, accessFlags := 0, code := some k6c0 }
def k6c1 : Code := { maxStack := 2, maxLocals := 1, code := prog_111_method_6_code, exceptionTable := #[], attributes := #[] }
def k6m1 : Method := { name := "ordersWrites", desc := "()Z", sig := { parameters := [], returnType := some .boolean }, accessFlags := 0, code := some k6c1 }
/-- com/example/quorumtree/quorumtree/server/Mode -/
def k6 : Class := { plain "com/example/quorumtree/quorumtree/server/Mode" (some 5) with
  accessFlags := 16432
  interfaces := #[]
  cf := some (fileOf pool6 1 #[] #[{ accessFlags := 0, nameIndex := 66, descriptorIndex := 67, attributes := #[] }, { accessFlags := 0, nameIndex := 69, descriptorIndex := 67, attributes := #[] }] 16432 26 #[] #[{ accessFlags := 16409, nameIndex := 5, descriptorIndex := 6, attributes := #[] }, { accessFlags := 16409, nameIndex := 9, descriptorIndex := 6, attributes := #[] }, { accessFlags := 16409, nameIndex := 12, descriptorIndex := 6, attributes := #[] }, { accessFlags := 16409, nameIndex := 15, descriptorIndex := 6, attributes := #[] }, { accessFlags := 18, nameIndex := 37, descriptorIndex := 38, attributes := #[] }, { accessFlags := 4122, nameIndex := 18, descriptorIndex := 19, attributes := #[] }])
  fields := #[{ name := "STANDALONE", type := (.object "com/example/quorumtree/quorumtree/server/Mode"), accessFlags := 16409, slot := 0, constantValue := 0 }, { name := "LOOKING", type := (.object "com/example/quorumtree/quorumtree/server/Mode"), accessFlags := 16409, slot := 1, constantValue := 0 }, { name := "FOLLOWER", type := (.object "com/example/quorumtree/quorumtree/server/Mode"), accessFlags := 16409, slot := 2, constantValue := 0 }, { name := "LEADER", type := (.object "com/example/quorumtree/quorumtree/server/Mode"), accessFlags := 16409, slot := 3, constantValue := 0 }, { name := "word", type := (.object "java/lang/String"), accessFlags := 18, slot := 3, constantValue := 0 }, { name := "$VALUES", type := (.array (.object "com/example/quorumtree/quorumtree/server/Mode")), accessFlags := 4122, slot := 4, constantValue := 0 }]
  methods := #[k6m0, k6m1]
  instanceTypes := #[(.object "java/lang/String"), .int, .int, (.object "java/lang/String")]
  staticTypes := #[(.object "com/example/quorumtree/quorumtree/server/Mode"), (.object "com/example/quorumtree/quorumtree/server/Mode"), (.object "com/example/quorumtree/quorumtree/server/Mode"), (.object "com/example/quorumtree/quorumtree/server/Mode"), (.array (.object "com/example/quorumtree/quorumtree/server/Mode"))]
  resolved := Array.replicate 75 none
  statics := some 0 }

def pool7 : Array CpInfo := pool [(1, u "java/lang/Cloneable"), (0, .class_ 1), (0, u "java/lang/Object"), (0, .class_ 3)] 3

/-- java/lang/Cloneable -/
def k7 : Class := { plain "java/lang/Cloneable" (some 0) with
  accessFlags := 1537
  interfaces := #[]
  cf := some (fileOf pool7 2 #[] #[] 1537 4 #[] #[])
  fields := #[]
  methods := #[]
  instanceTypes := #[]
  staticTypes := #[]
  resolved := Array.replicate 8 none
  statics := none }

/-- the primitive byte -/
def k8 : Class := { plain "byte" none with kind := .primitive 'B', accessFlags := 0x411 }
/-- [B -/
def k9 : Class := { plain "[B" (some 0) with kind := .array 8 .byte, interfaces := #[7, 4], accessFlags := 1041 }

/-- the primitive int -/
def k10 : Class := { plain "int" none with kind := .primitive 'I', accessFlags := 0x411 }
/-- [I -/
def k11 : Class := { plain "[I" (some 0) with kind := .array 10 .int, interfaces := #[7, 4], accessFlags := 1041 }

def heap : Heap := #[{ cls := 6, slots := #[.ref 1, .ref 2, .ref 3, .ref 4, .null], vm := .statics 6 },
  { cls := 6, slots := #[.null, .int 0, .int 0, .null], vm := .none },
  { cls := 6, slots := #[.null, .int 1, .int 0, .null], vm := .none },
  { cls := 6, slots := #[.null, .int 2, .int 0, .null], vm := .none },
  { cls := 6, slots := #[.null, .int 3, .int 0, .null], vm := .none }]
def classes : Array Class := #[k0, k1, k2, k3, k4, k5, k6, k7, k8, k9, k10, k11]
def interned : List (Array UInt16 × Addr) := []
def slotsUsed : Nat := 21
def theMethod : MethodId := ⟨1, 1⟩
def args0 : Array Value := #[.int 5]
def aboutOver (below : List Frame) : State where
  vm := { classes := classes, interned := interned.toArray }
  heap := heap
  slotsUsed := slotsUsed
  threads := #[{ frames := .invoking theMethod args0 :: below }]
def below0 : List Frame := [.native { method := ⟨0, 0⟩, args := #[] }]
def about1 : State := aboutOver below0
def p0 : Program := .bare "" "" ""
def e0 : Env := launch0.env 0 0 0
theorem w_frames : about1.frames = Frame.invoking theMethod args0 :: below0 := rfl
set_option maxRecDepth 65536 in
theorem w_args : argsFit about1.vm theMethod args0 = true := by decide +kernel
set_option maxRecDepth 65536 in
theorem w_heap : heapFits about1 = true := by decide +kernel
set_option maxRecDepth 65536 in
theorem w_runnable : about1.curStatus? = some .runnable := by decide +kernel
set_option maxRecDepth 65536 in
theorem w_alone : about1.alone = true := by decide +kernel
set_option maxRecDepth 65536 in
theorem w_named : about1.methodNamed? x = some theMethod := by decide +kernel
set_option maxRecDepth 65536 in
theorem w_hears : about1.hears theMethod below0 = true := by decide +kernel
set_option maxRecDepth 65536 in
theorem w_ripe : about1.ripe theMethod args0 below0 = true := by decide +kernel
theorem w_running : about1.status = .running := rfl
set_option maxRecDepth 65536 in
theorem w_room : about1.hasRoom e0.platform room_1 = true :=
  launch0.hasRoom_least _ room_1 (by decide +kernel) (by decide +kernel) (by decide +kernel) (by decide +kernel) (by decide +kernel) (by decide +kernel)
theorem allAtoms_all (ts : List Jvm.Cond) (a : Array Jvm.Value) (st : Jvm.State) : (allAtoms ts).before a st = ts.all (fun c => c.before a st) := by
  induction ts with
  | nil => rfl
  | cons c t ih =>
    show (Jvm.Cond.and c (allAtoms t)).before a st = _
    rw [Jvm.Cond.before_and, ih, List.all_cons]
def words1 : List Jvm.Cond := Jvm.Cond.code x code maxLocals ret :: tables_1
/-- a 'code' word, met by the world's own term for the bytes: nothing is compared byte by byte -/
theorem code_word {y : MethodName} {bytes : ByteArray} {mx : Nat} {rt : Option FieldType} {a : Array Value} {s : State} {m : MethodId} {meth : Method} {c : Code} (h1 : s.methodNamed? y = some m) (h2 : s.vm.method? m = some meth) (h3 : meth.code = some c) (h4 : c.code = bytes)
    (h5 : (c.maxLocals == mx && c.exceptionTable.isEmpty && decide (c.maxStack ≤ mostOperands) && decide (meth.sig.returnType = rt) && !meth.locks && decide (parseMethodDescriptor y.desc = some meth.sig)) = true) : (Jvm.Cond.code y bytes mx rt).before a s = true := by
  simp only [Bool.and_eq_true, beq_iff_eq, Bool.not_eq_true', decide_eq_true_eq] at h5
  obtain ⟨⟨⟨⟨⟨g1, g2⟩, g3⟩, g4⟩, g5⟩, g6⟩ := h5
  simp [Cond.before, Cond.holds, Cond.value, h1, h2, h3, h4, g1, g2, g3, g4, g5, g6]
def isCode : Jvm.Cond → Bool
  | .code _ _ _ _ => true
  | _ => false
theorem all_split {L : List Jvm.Cond} {P : Jvm.Cond → Bool} (h1 : L.all (fun c => isCode c || P c) = true) (h2 : ∀ c ∈ L.filter isCode, P c = true) : L.all P = true := by
  refine List.all_eq_true.mpr fun c hc => ?_
  have h := List.all_eq_true.mp h1 c hc
  rcases Bool.eq_false_or_eq_true (isCode c) with hi | hi
  · exact h2 c (List.mem_filter.mpr ⟨hc, hi⟩)
  · simpa [hi] using h
set_option maxRecDepth 65536 in
theorem w_c0 : (Jvm.Cond.code x code maxLocals ret).before args0 about1 = true := code_word (m := ⟨1, 1⟩) (meth := k1m1) (c := k1c1) (by decide +kernel) rfl rfl rfl (by decide +kernel)
set_option maxRecDepth 65536 in
theorem w_c1 : (Jvm.Cond.code ({ cls := "com/example/quorumtree/quorumtree/server/Mode", name := "ordersWrites", desc := "()Z" } : Jvm.MethodName) prog_111_method_6_code (1 : Nat) (Option.some Jvm.ClassFile.FieldType.boolean)).before args0 about1 = true := code_word (m := ⟨6, 1⟩) (meth := k6m1) (c := k6c1) (by decide +kernel) rfl rfl rfl (by decide +kernel)
set_option maxRecDepth 65536 in
theorem w_c2 : (Jvm.Cond.code ({ cls := "com/example/quorumtree/quorumtree/server/Mode", name := "servesClients", desc := "()Z" } : Jvm.MethodName) prog_111_method_5_code (1 : Nat) (Option.some Jvm.ClassFile.FieldType.boolean)).before args0 about1 = true := code_word (m := ⟨6, 0⟩) (meth := k6m0) (c := k6c0) (by decide +kernel) rfl rfl rfl (by decide +kernel)
def codes1 : List Jvm.Cond := [Jvm.Cond.code x code maxLocals ret, Jvm.Cond.code ({ cls := "com/example/quorumtree/quorumtree/server/Mode", name := "ordersWrites", desc := "()Z" } : Jvm.MethodName) prog_111_method_6_code (1 : Nat) (Option.some Jvm.ClassFile.FieldType.boolean), Jvm.Cond.code ({ cls := "com/example/quorumtree/quorumtree/server/Mode", name := "servesClients", desc := "()Z" } : Jvm.MethodName) prog_111_method_5_code (1 : Nat) (Option.some Jvm.ClassFile.FieldType.boolean)]
set_option maxRecDepth 65536 in
theorem codes_eq : words1.filter isCode = codes1 := rfl
theorem w_codes : ∀ c ∈ words1.filter isCode, c.before args0 about1 = true := by
  rw [codes_eq]
  intro c hc
  simp only [codes1, List.mem_cons, List.not_mem_nil, or_false] at hc
  rcases hc with rfl | rfl | rfl
  · exact w_c0
  · exact w_c1
  · exact w_c2
set_option maxRecDepth 65536 in
theorem w_t1 : words1.all (fun c => isCode c || c.before args0 about1) = true := by decide +kernel
theorem w_tables : (allAtoms (Jvm.Cond.code x code maxLocals ret :: tables_1)).before args0 about1 = true := by
  rw [allAtoms_all]
  show words1.all (fun c => c.before args0 about1) = true
  refine all_split ?_ w_codes
  rw [w_t1]
set_option maxRecDepth 65536 in
theorem w_case : (Jvm.Cond.and given_1 narrow_1).before args0 about1 = true := by decide +kernel
theorem w_applies : (headSpec (Jvm.Cond.code x code maxLocals ret :: tables_1) room_1).applies x e0.platform about1 = true :=
  (Spec.applies_iff w_frames).mpr ⟨w_running, w_runnable, w_alone, w_named, w_hears, w_ripe, w_room, w_tables⟩
theorem atStart : AtStart classFile x code maxLocals ret World_1 tables_1 room_1 Calls_1 rest_1 Pre_1 launch0 p0 e0 about1 theMethod args0 below0 :=
  ⟨lists_1, trivial, launch0.admits_env _ _ _, launch0.least_env, fairChoices_fair.cas, fairChoices_fair.clock, w_frames, w_args, w_heap, w_applies, trivial, trivial, w_case⟩
end start1
theorem witness_1 : WitnessClaimed_1 := ⟨start1.p0, start1.e0, start1.about1, start1.theMethod, start1.args0, start1.below0, start1.atStart⟩
end Jvm.Pilot.@@N@@
